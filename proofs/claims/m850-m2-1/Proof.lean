import JvmDerived
import JvmDerived.Pilot.@@N@@Statement
import JvmDerived.Pilot.@@N@@Code
set_option linter.unusedVariables false
set_option linter.unusedSimpArgs false
namespace Jvm.OwnKit
open Sem ClassFile Op Lib Jvm.Stand Jvm.Free Jvm.LawKit Jvm.RoadKit
/-- from the frame g over T the run ends, and what it leaves is Q's -/
def Go (p : Program) (e : Env) (below : List Frame) (s : State) (Q : Option Value → Heap → List Loc → Prop) (C S : Nat) (T : State) (g : JFrame) : Prop :=
  ∃ s₂ o, Steps p.tables e below (T.setTop g) s₂ ∧ s₂.status = .running ∧ Ended s₂ below o ∧ ∃ v L, o = .returned v ∧ Q v s₂.heap L ∧ FrameEnd s o s₂ L C S
section OwnGo
variable {p : Program} {l : Launch} {e : Env} {R : Room} {s : State} {m : MethodId} {args : Array Value} {below : List Frame} {meth : Method} {c : Code} {T T' : State} {locs : List Loc} {cells slots : Nat} {Q : Option Value → Heap → List Loc → Prop} {C S : Nat} {g g' : JFrame}
theorem Go.st (h : ∀ t, Steps p.tables e below (T'.setTop g') t → Steps p.tables e below (T.setTop g) t) (k : Go p e below s Q C S T' g') : Go p e below s Q C S T g := by
  obtain ⟨s₂, o, h1, h2⟩ := k
  exact ⟨s₂, o, h _ h1, h2⟩
theorem Go.eq (q : g = g') (k : Go p e below s Q C S T g') : Go p e below s Q C S T g := q ▸ k
theorem Go.retV (X : Stand p l e R s m args below meth c T locs cells slots) (hx : p.tables.exec = Jvm.exec) (hlk : meth.locks = false) {pc : Nat} {Ls : Array Slot} {w : Value} {t : FieldType} {i : Instr} {rest : List Value} (hret : meth.sig.returnType = some t) (hn : narrow t w = w)
    (hi : (i = .ireturn ∧ (t = .int ∨ t = .boolean ∨ t = .byte ∨ t = .char ∨ t = .short) ∧ ∃ z, w = .int z) ∨ (i = .lreturn ∧ t = .long ∧ ∃ z, w = .long z) ∨ (i = .dreturn ∧ t = .double ∧ ∃ z, w = .double z) ∨ (i = .freturn ∧ t = .float ∧ ∃ z, w = .float z) ∨ (i = .areturn ∧ t.isReference = true ∧ w.isRef = true))
    (hd : decode c.code pc = .ok (i, 1)) (hQ : Q (some w) T.heap locs) (hc : cells ≤ C) (hs : slots ≤ S) : Go p e below s Q C S T (mkF m pc Ls (w :: rest)) := by
  obtain ⟨fs, hr, hrun, hended, hW, hsame⟩ := X.leave (v := some w) (fun h => by rw [hret] at h; cases h) hlk
  exact ⟨_, _, retOut X hx hret hn hi hd hr, hrun, hended, _, _, rfl, hQ, ⟨_, rfl⟩, hW, hsame.mono hc hs⟩
theorem Go.retI (X : Stand p l e R s m args below meth c T locs cells slots) (hx : p.tables.exec = Jvm.exec) (hlk : meth.locks = false) {pc : Nat} {Ls : Array Slot} {z : Int32} {rest : List Value} (hret : meth.sig.returnType = some .int) (hd : decode c.code pc = .ok (.ireturn, 1)) (hQ : Q (some (.int z)) T.heap locs) (hc : cells ≤ C) (hs : slots ≤ S) : Go p e below s Q C S T (mkF m pc Ls (.int z :: rest)) :=
  Go.retV X hx hlk hret rfl (Or.inl ⟨rfl, Or.inl rfl, _, rfl⟩) hd hQ hc hs
theorem Go.retZ (X : Stand p l e R s m args below meth c T locs cells slots) (hx : p.tables.exec = Jvm.exec) (hlk : meth.locks = false) {pc : Nat} {Ls : Array Slot} {z : Int32} {rest : List Value} (hret : meth.sig.returnType = some .boolean) (hd : decode c.code pc = .ok (.ireturn, 1)) (hn : narrow .boolean (.int z) = .int z) (hQ : Q (some (.int z)) T.heap locs) (hc : cells ≤ C) (hs : slots ≤ S) : Go p e below s Q C S T (mkF m pc Ls (.int z :: rest)) :=
  Go.retV X hx hlk hret hn (Or.inl ⟨rfl, Or.inr (Or.inl rfl), _, rfl⟩) hd hQ hc hs
theorem Go.retB (X : Stand p l e R s m args below meth c T locs cells slots) (hx : p.tables.exec = Jvm.exec) (hlk : meth.locks = false) {pc : Nat} {Ls : Array Slot} {z : Int32} {rest : List Value} (hret : meth.sig.returnType = some .byte) (hd : decode c.code pc = .ok (.ireturn, 1)) (hn : narrow .byte (.int z) = .int z) (hQ : Q (some (.int z)) T.heap locs) (hc : cells ≤ C) (hs : slots ≤ S) : Go p e below s Q C S T (mkF m pc Ls (.int z :: rest)) :=
  Go.retV X hx hlk hret hn (Or.inl ⟨rfl, Or.inr (Or.inr (Or.inl rfl)), _, rfl⟩) hd hQ hc hs
theorem Go.retC (X : Stand p l e R s m args below meth c T locs cells slots) (hx : p.tables.exec = Jvm.exec) (hlk : meth.locks = false) {pc : Nat} {Ls : Array Slot} {z : Int32} {rest : List Value} (hret : meth.sig.returnType = some .char) (hd : decode c.code pc = .ok (.ireturn, 1)) (hn : narrow .char (.int z) = .int z) (hQ : Q (some (.int z)) T.heap locs) (hc : cells ≤ C) (hs : slots ≤ S) : Go p e below s Q C S T (mkF m pc Ls (.int z :: rest)) :=
  Go.retV X hx hlk hret hn (Or.inl ⟨rfl, Or.inr (Or.inr (Or.inr (Or.inl rfl))), _, rfl⟩) hd hQ hc hs
theorem Go.retJ (X : Stand p l e R s m args below meth c T locs cells slots) (hx : p.tables.exec = Jvm.exec) (hlk : meth.locks = false) {pc : Nat} {Ls : Array Slot} {z : Int64} {rest : List Value} (hret : meth.sig.returnType = some .long) (hd : decode c.code pc = .ok (.lreturn, 1)) (hQ : Q (some (.long z)) T.heap locs) (hc : cells ≤ C) (hs : slots ≤ S) : Go p e below s Q C S T (mkF m pc Ls (.long z :: rest)) :=
  Go.retV X hx hlk hret rfl (Or.inr (Or.inl ⟨rfl, rfl, _, rfl⟩)) hd hQ hc hs
theorem own_nar_ref {t : FieldType} {w : Value} (hw : w.isRef = true) : narrow t w = w := by
  rcases ref_cases hw with rfl | ⟨_, rfl⟩ <;> cases t <;> rfl
theorem Go.retA (X : Stand p l e R s m args below meth c T locs cells slots) (hx : p.tables.exec = Jvm.exec) (hlk : meth.locks = false) {pc : Nat} {Ls : Array Slot} {w : Value} {t : FieldType} {rest : List Value} (hret : meth.sig.returnType = some t) (ht : t.isReference = true) (hw : w.isRef = true) (hd : decode c.code pc = .ok (.areturn, 1)) (hQ : Q (some w) T.heap locs) (hc : cells ≤ C) (hs : slots ≤ S) : Go p e below s Q C S T (mkF m pc Ls (w :: rest)) :=
  Go.retV X hx hlk hret (own_nar_ref hw) (Or.inr (Or.inr (Or.inr (Or.inr ⟨rfl, ht, hw⟩)))) hd hQ hc hs
theorem Go.ret0 (X : Stand p l e R s m args below meth c T locs cells slots) (hx : p.tables.exec = Jvm.exec) (hlk : meth.locks = false) {pc : Nat} {Ls : Array Slot} (hret : meth.sig.returnType = none) (hd : decode c.code pc = .ok (.return_, 1)) (hQ : Q none T.heap locs) (hc : cells ≤ C) (hs : slots ≤ S) : Go p e below s Q C S T (mkF m pc Ls []) := by
  obtain ⟨fs, hr, hrun, hended, hW, hsame⟩ := X.leave (v := none) (fun _ => rfl) hlk
  exact ⟨_, _, X.returnOut hx hret hd hr, hrun, hended, _, _, rfl, hQ, ⟨_, rfl⟩, hW, hsame.mono hc hs⟩
end OwnGo
/-- a proposition as Java's boolean -/
def b2i (P : Prop) [Decidable P] : Int32 := if P then 1 else 0
theorem b2i_pos {P : Prop} [Decidable P] (h : P) : b2i P = 1 := if_pos h
theorem b2i_neg {P : Prop} [Decidable P] (h : ¬ P) : b2i P = 0 := if_neg h
theorem b2i_ne {P : Prop} [Decidable P] (h : P) : ¬ b2i P = 0 := by rw [b2i_pos h]; decide
theorem b2i_zero {P : Prop} [Decidable P] (h : ¬ P) : b2i P = 0 := b2i_neg h
theorem own_b2i_t {P : Prop} [Decidable P] (h : P) : some (Value.int 1) = some (Value.int (b2i P)) := by rw [b2i_pos h]
theorem own_b2i_f {P : Prop} [Decidable P] (h : ¬ P) : some (Value.int 0) = some (Value.int (b2i P)) := by rw [b2i_neg h]
theorem own_nb (y : Int32) : nar .byte (y.toInt8.toInt32) = y.toInt8.toInt32 := by
  show y.toInt8.toInt32.toInt8.toInt32 = y.toInt8.toInt32
  simp
theorem own_nc (y : Int32) : nar .char (y.toUInt32.toUInt16.toUInt32.toInt32) = y.toUInt32.toUInt16.toUInt32.toInt32 := by
  show (y.toUInt32.toUInt16.toUInt32.toInt32).toUInt32.toUInt16.toUInt32.toInt32 = y.toUInt32.toUInt16.toUInt32.toInt32
  rw [UInt32.toUInt32_toInt32, UInt16.toUInt16_toUInt32]
theorem own_nbv (y : Int32) : narrow .byte (.int (y.toInt8.toInt32)) = .int (y.toInt8.toInt32) := congrArg Value.int (own_nb y)
theorem own_and1 (a : Int32) : a &&& (1 : Int32) = (0 : Int32) ∨ a &&& (1 : Int32) = (1 : Int32) := and_one a
theorem own_and3 (a : Int32) : a &&& (3 : Int32) = (0 : Int32) ∨ a &&& (3 : Int32) = (1 : Int32) ∨ a &&& (3 : Int32) = (2 : Int32) ∨ a &&& (3 : Int32) = (3 : Int32) := by
  have e := c_mask a 3 2 (by decide) (by decide)
  have h : (a &&& (3 : Int32)).toInt = 0 ∨ (a &&& (3 : Int32)).toInt = 1 ∨ (a &&& (3 : Int32)).toInt = 2 ∨ (a &&& (3 : Int32)).toInt = 3 := by omega
  rcases h with h | h | h | h
  · exact Or.inl (Int32.toInt_inj.mp (h.trans (by decide)))
  · exact Or.inr (Or.inl (Int32.toInt_inj.mp (h.trans (by decide))))
  · exact Or.inr (Or.inr (Or.inl (Int32.toInt_inj.mp (h.trans (by decide)))))
  · exact Or.inr (Or.inr (Or.inr (Int32.toInt_inj.mp (h.trans (by decide)))))
theorem own_ord {s : State} {args : Array Value} {t : Term} {a : Addr} {C n d : String} {k : Int32} (ev : t.eval args s none [] s = some (.ref a)) (h : (Jvm.Cond.eq (Term.field t C n d) (Term.int k)).value args s none s [] = some true) : Fld s s.heap a C n d (.int k) := by
  obtain ⟨u, w, hu, hw, k1, k2⟩ := cmp_v (Or.inl h)
  have hw' : (Term.int k).eval args s none [] s = some (.int k) := Term.int_eval k
  cases hw.symm.trans hw'
  obtain ⟨z, rfl⟩ : ∃ z, u = .int z := k2
  have hz : z = k := gotT (Cond.eq_ints hu hw') h
  subst hz
  exact Fld.start ((fld_at ev).symm.trans hu)
section OwnBounds
variable {c a b : Int32} {n : Int}
theorem own_i1 (h : c < a) (q : a.toInt ≤ b.toInt) : c < b := by rw [Int32.lt_iff_toInt_lt] at *; omega
theorem own_i2 (h : ¬ a < c) (q : a.toInt < b.toInt) : c < b := by rw [Int32.lt_iff_toInt_lt] at *; omega
theorem own_i3 (h : ¬ c < a) (q : b.toInt ≤ a.toInt) : ¬ c < b := by rw [Int32.lt_iff_toInt_lt] at *; omega
theorem own_i4 (h : a < c) (q : b.toInt ≤ a.toInt + 1) : ¬ c < b := by rw [Int32.lt_iff_toInt_lt] at *; omega
theorem own_j1 (h : c < a) (q : a.toInt ≤ b.toInt + 1) : ¬ b < c := by rw [Int32.lt_iff_toInt_lt] at *; omega
theorem own_j2 (h : ¬ a < c) (q : a.toInt ≤ b.toInt) : ¬ b < c := by rw [Int32.lt_iff_toInt_lt] at *; omega
theorem own_j3 (h : ¬ c < a) (q : b.toInt < a.toInt) : b < c := by rw [Int32.lt_iff_toInt_lt] at *; omega
theorem own_j4 (h : a < c) (q : b.toInt ≤ a.toInt) : b < c := by rw [Int32.lt_iff_toInt_lt] at *; omega
theorem own_k1 (h : c < a) (q : a.toInt ≤ b.toInt) : ¬ c = b := fun e => by rw [e, Int32.lt_iff_toInt_lt] at h; omega
theorem own_k2 (h : ¬ a < c) (q : a.toInt < b.toInt) : ¬ c = b := fun e => by rw [e, Int32.lt_iff_toInt_lt] at h; omega
theorem own_k3 (h : ¬ c < a) (q : b.toInt < a.toInt) : ¬ c = b := fun e => by rw [e, Int32.lt_iff_toInt_lt] at h; omega
theorem own_k4 (h : a < c) (q : b.toInt ≤ a.toInt) : ¬ c = b := fun e => by rw [e, Int32.lt_iff_toInt_lt] at h; omega
theorem own_c1 (h : c < a) (q : a.toInt = n) : c.toInt < n := by rw [Int32.lt_iff_toInt_lt] at h; omega
theorem own_c2 (h : ¬ a < c) (q : a.toInt = n) : c.toInt ≤ n := by rw [Int32.lt_iff_toInt_lt] at h; omega
theorem own_c3 (h : ¬ c < a) (q : a.toInt = n) : n ≤ c.toInt := by rw [Int32.lt_iff_toInt_lt] at h; omega
theorem own_c4 (h : a < c) (q : a.toInt = n) : n < c.toInt := by rw [Int32.lt_iff_toInt_lt] at h; omega
theorem own_c5 (h : c = a) (q : a.toInt = n) : c.toInt = n := by rw [h]; exact q
theorem own_c6 (h : ¬ c = a) (q : a.toInt = n) : ¬ c.toInt = n := fun e => h (Int32.toInt_inj.mp (e.trans q.symm))
end OwnBounds
theorem own_addc {a b c d : Int32} (h : b + c = d) : (a + b) + c = a + d := by rw [Int32.add_assoc, h]
theorem own_byte_of {v : Value} (h : fits .byte v = true) : ∃ w, v = .int w ∧ narrow .byte (.int w) = .int w := by
  cases v with
  | int w =>
    refine ⟨w, rfl, ?_⟩
    obtain ⟨h1, h2⟩ := rng_byte h
    have e := c_i2b w
    have e1 : (-128 : Int32).toInt = -128 := by decide
    have e2 : (127 : Int32).toInt = 127 := by decide
    rw [Int32.lt_iff_toInt_lt, e1] at h1
    rw [Int32.lt_iff_toInt_lt, e2] at h2
    have e3 : w.toInt8.toInt32 = w := Int32.toInt_inj.mp (by omega)
    exact congrArg Value.int e3
  | _ => simp [fits] at h
theorem own_arv_nostat {Z : State} {h : Heap} {a : Addr} {k : ClassId} {ty : FieldType} {z : Int32} {vs : List Value} {dv : Value} (F : Arv Z h a k ty z vs dv) : ∀ cell : Cell, h[a]? = some cell → cell.vm.isStatics = false := by
  obtain ⟨c, A, -⟩ := F
  intro cell hc
  cases A.1.symm.trans hc
  exact A.plain
theorem own_selP {s : State} {args args' : Array Value} {y y' : MethodName} (hsel : (Jvm.Cond.selects y'.cls y' y').before args s = true) (he : y.cls = y'.cls) (hp : s.PrivateAt y) (hi : (Jvm.Cond.instanceMethod y).before args s = true) (hy : y.cls ≠ "java/lang/invoke/MethodHandle" ∧ y.cls ≠ "java/lang/invoke/VarHandle") : (Jvm.Cond.selects y.cls y y).before args s = true := by
  obtain ⟨c2, r2, m2, -, -, q3, -, kP, hkP, hkPi⟩ := Cond.selects_spec hsel
  exact Jvm.Stand.selects_self_of_private (by rw [he]; exact findClass_of_methodNamed q3) hkP hkPi hp hi hy
theorem own_irr {a : Int32} : ¬ (a < a) := Int32.lt_irrefl
theorem own_irrL {a : Int64} : ¬ (a < a) := Int64.lt_irrefl
theorem own_sta_keep {Z : State} {h h' : Heap} {C n d : String} {v : Value} {ws : List Addr} (F : Sta Z h C n d v) (K : Keep h h' ws) (q : ∀ x ∈ ws, ∀ cell : Cell, h[x]? = some cell → cell.vm.isStatics = false) : Sta Z h' C n d v := by
  obtain ⟨cf, i, k, f, st, cell, h1, h2, h3, h4, h5, h6, h7⟩ := F
  refine ⟨cf, i, k, f, st, cell, h1, h2, h3, h4, K.2.1 _ _ h5 (fun hm => ?_), h6, h7⟩
  have := q _ hm _ h5
  rw [h6] at this
  cases this
end Jvm.OwnKit
namespace Jvm.Pilot.@@N@@
open Jvm Jvm.ClassFile Sem Op Lib Jvm.Free Jvm.Stand Jvm.LawKit Jvm.RoadKit Jvm.OwnKit Bundle Jvm.Pilot.@@N@@.Jvm.D
theorem own_mx (b : Int64) : ¬ (if (1 : Int64) < b then b else (1 : Int64)) < (1 : Int64) := by
  have h1 : (1 : Int64).toInt = 1 := by decide
  split
  · rename_i h
    rw [Int64.lt_iff_toInt_lt] at *
    omega
  · decide
theorem own_mx0 (b : Int64) : (0 : Int64) < (if (1 : Int64) < b then b else (1 : Int64)) := by
  have h1 : (1 : Int64).toInt = 1 := by decide
  have h0 : (0 : Int64).toInt = 0 := by decide
  split
  · rename_i h
    rw [Int64.lt_iff_toInt_lt] at *
    omega
  · decide
theorem d1_0 : decode jdk_29_method_66_code 0 = .ok (.lload_n 0, 1) := by decide +kernel
theorem d1_1 : decode jdk_29_method_66_code 1 = .ok (.lload_n 2, 1) := by decide +kernel
theorem d1_2 : decode jdk_29_method_66_code 2 = .ok (.lcmp, 1) := by decide +kernel
theorem d1_3 : decode jdk_29_method_66_code 3 = .ok (.ifCond .lt 7, 3) := by decide +kernel
theorem d1_10 : decode jdk_29_method_66_code 10 = .ok (.lload_n 2, 1) := by decide +kernel
theorem d1_11 : decode jdk_29_method_66_code 11 = .ok (.lreturn, 1) := by decide +kernel
theorem d1_6 : decode jdk_29_method_66_code 6 = .ok (.lload_n 0, 1) := by decide +kernel
theorem d1_7 : decode jdk_29_method_66_code 7 = .ok (.goto 4, 3) := by decide +kernel
theorem ef_rm1 (m : MethodId) (p1 : Int64) (p2 : Int64) : entryFrame m #[(.long p1), (.long p2)] 4 = mkF m 0 #[.val (.long p1), .second, .val (.long p2), .second] [] := by first | (simp [entryFrame, mkF, argsToLocals, Value.category]; done) | rfl
def Qrm1 (Z : State) (p1 : Int64) (p2 : Int64) (h0 : Heap) (n0 : Nat) (rV : Option Value) (hE : Heap) (LE : List Loc) : Prop := rV = some (.long (if p1 < p2 then p2 else p1)) ∧ Fr n0 LE ∧ hE = h0
set_option maxRecDepth 65536 in
set_option maxHeartbeats 40000000 in
theorem rm1 (l : Launch) (Z : State) (a0 : Array Value) (hw : ∀ d ∈ tables_1, d.before a0 Z = true) (ws : List Jvm.Cond) (p1 : Int64) (p2 : Int64) (h0 : Heap) (n0 : Nat) (Z0 : n0 ≤ h0.size) :
    MetFree l (⟨"java/lang/Math", "max", "(JJ)J"⟩ : MethodName) (head1 (Jvm.Cond.code (⟨"java/lang/Math", "max", "(JJ)J"⟩ : MethodName) jdk_29_method_66_code 4 (some .long) :: ws) ({ frames := 0, cells := 0, slots := 0, locals := 0 } : Room)) (fun aA UA => aA = #[(.long p1), (.long p2)] ∧ Z.Warmed39 UA.vm ∧ UA.heap = h0) (fun _ _ _ _ _ => True) (fun _ UA oA UB => ∃ rV LE, oA = .returned rV ∧ Qrm1 Z p1 p2 h0 n0 rV UB.heap LE ∧ FrameEnd UA oA UB LE ({ frames := 0, cells := 0, slots := 0, locals := 0 } : Room).cells ({ frames := 0, cells := 0, slots := 0, locals := 0 } : Room).slots) := by
  refine MetFree.of_bodySF (Jvm.Free.JP.mathPlain rfl (by decide +kernel)) hisR ?_
  intro p e s m args below meth c s₁ Bd hml0 hP hK
  obtain ⟨rfl, hZ, hh⟩ := hP
  have hx := Bd.exec
  have hby := Bd.bytes
  have hml : c.maxLocals = 4 := hml0
  have hown : s.vm.findClass "java/lang/Math" = some m.cls := findClass_of_methodNamed Bd.named
  have hnm := (name_of_methodNamed Bd.named Bd.method).1
  have hlk := Bd.notSynchronized
  have X0 : Stand p l e ({ frames := 0, cells := 0, slots := 0, locals := 0 } : Room) s m #[(.long p1), (.long p2)] below meth c s₁ [] 0 0 := Stand.of_body Bd
  have e0 : s₁.heap = h0 := by rw [← hh, Bd.state]; rfl
  have N0 := Fr.nil n0
  show Go p e below s (Qrm1 Z p1 p2 h0 n0) ({ frames := 0, cells := 0, slots := 0, locals := 0 } : Room).cells ({ frames := 0, cells := 0, slots := 0, locals := 0 } : Room).slots s₁ (entryFrame m #[(.long p1), (.long p2)] 4)
  refine Go.eq (ef_rm1 m p1 p2) ?_
  show Go p e below s _ _ _ s₁ (mkF m 0 #[.val (.long p1), .second, .val (.long p2), .second] [])
  refine Go.st (fun _ => XS.lloadN X0.here hx rfl (hb hby d1_0) rfl) ?_
  show Go p e below s _ _ _ s₁ (mkF m 1 #[.val (.long p1), .second, .val (.long p2), .second] [(.long p1)])
  refine Go.st (fun _ => XS.lloadN X0.here hx rfl (hb hby d1_1) rfl) ?_
  show Go p e below s _ _ _ s₁ (mkF m 2 #[.val (.long p1), .second, .val (.long p2), .second] [(.long p2), (.long p1)])
  refine Go.st (fun _ => XS.lcmp X0.here hx rfl (hb hby d1_2) rfl) ?_
  show Go p e below s _ _ _ s₁ (mkF m 3 #[.val (.long p1), .second, .val (.long p2), .second] [(.int (lcmpW p1 p2))])
  by_cases hc1 : p1 < p2
  · refine Go.st (fun _ => XS.ifYes X0.here hx rfl (pc0 := 3) (pc' := 10) rfl (hb hby d1_3) rfl ((if0 _ _).trans (tlt ((lw_lt p1 p2).mpr hc1)).1) (by decide) (by decide)) ?_
    show Go p e below s _ _ _ s₁ (mkF m 10 #[.val (.long p1), .second, .val (.long p2), .second] [])
    refine Go.st (fun _ => XS.lloadN X0.here hx rfl (hb hby d1_10) rfl) ?_
    show Go p e below s _ _ _ s₁ (mkF m 11 #[.val (.long p1), .second, .val (.long p2), .second] [(.long p2)])
    exact Go.retJ X0 hx hlk Bd.returns (hb hby d1_11) (by rw [e0]; exact ⟨(by rw [if_pos hc1]), N0, rfl⟩) (by decide) (by decide)
  · refine Go.st (fun _ => XS.ifNo X0.here hx rfl (hb hby d1_3) rfl ((if0 _ _).trans (flt (fun qq => hc1 ((lw_lt p1 p2).mp qq))).1)) ?_
    show Go p e below s _ _ _ s₁ (mkF m 6 #[.val (.long p1), .second, .val (.long p2), .second] [])
    refine Go.st (fun _ => XS.lloadN X0.here hx rfl (hb hby d1_6) rfl) ?_
    show Go p e below s _ _ _ s₁ (mkF m 7 #[.val (.long p1), .second, .val (.long p2), .second] [(.long p1)])
    refine Go.st (fun _ => XS.goto X0.here hx rfl (pc0 := 7) (pc' := 11) rfl (hb hby d1_7) (by decide) (by decide)) ?_
    show Go p e below s _ _ _ s₁ (mkF m 11 #[.val (.long p1), .second, .val (.long p2), .second] [(.long p1)])
    exact Go.retJ X0 hx hlk Bd.returns (hb hby d1_11) (by rw [e0]; exact ⟨(by rw [if_neg hc1]), N0, rfl⟩) (by decide) (by decide)
theorem d3_0 : decode prog_2_method_2_code 0 = .ok (.lload_n 0, 1) := by decide +kernel
theorem d3_1 : decode prog_2_method_2_code 1 = .ok (.lconst 1, 1) := by decide +kernel
theorem d3_2 : decode prog_2_method_2_code 2 = .ok (.lcmp, 1) := by decide +kernel
theorem d3_3 : decode prog_2_method_2_code 3 = .ok (.ifCond .ge 17, 3) := by decide +kernel
theorem d3_20 : decode prog_2_method_2_code 20 = .ok (.lload_n 0, 1) := by decide +kernel
theorem d3_21 : decode prog_2_method_2_code 21 = .ok (.lreturn, 1) := by decide +kernel
theorem pn_0 : plainName "com/example/tranca/tranca/FencingTokens" = true := by first | (simp [plainName, overriddenIn]; done) | decide +kernel
theorem ef_rm3 (m : MethodId) (q : Int64) : entryFrame m #[(.long q)] 2 = mkF m 0 #[.val (.long q), .second] [] := by first | (simp [entryFrame, mkF, argsToLocals, Value.category]; done) | rfl
def Qrm3 (Z : State) (q : Int64) (h0 : Heap) (n0 : Nat) (rV : Option Value) (hE : Heap) (LE : List Loc) : Prop := rV = some (.long q) ∧ Fr n0 LE ∧ hE = h0
set_option maxRecDepth 65536 in
set_option maxHeartbeats 40000000 in
theorem rm3 (l : Launch) (Z : State) (a0 : Array Value) (hw : ∀ d ∈ tables_1, d.before a0 Z = true) (ws : List Jvm.Cond) (q : Int64) (h0 : Heap) (n0 : Nat) (Z0 : n0 ≤ h0.size) (hq : ¬ (q < (1 : Int64))) :
    MetFree l (⟨"com/example/tranca/tranca/FencingTokens", "requireValid", "(J)J"⟩ : MethodName) (head1 (Jvm.Cond.code (⟨"com/example/tranca/tranca/FencingTokens", "requireValid", "(J)J"⟩ : MethodName) prog_2_method_2_code 2 (some .long) :: ws) ({ frames := 0, cells := 0, slots := 0, locals := 0 } : Room)) (fun aA UA => aA = #[(.long q)] ∧ Z.Warmed39 UA.vm ∧ UA.heap = h0) (fun _ _ _ _ _ => True) (fun _ UA oA UB => ∃ rV LE, oA = .returned rV ∧ Qrm3 Z q h0 n0 rV UB.heap LE ∧ FrameEnd UA oA UB LE ({ frames := 0, cells := 0, slots := 0, locals := 0 } : Room).cells ({ frames := 0, cells := 0, slots := 0, locals := 0 } : Room).slots) := by
  refine MetFree.of_bodySF (plainFor_of_name pn_0) hisR ?_
  intro p e s m args below meth c s₁ Bd hml0 hP hK
  obtain ⟨rfl, hZ, hh⟩ := hP
  have hx := Bd.exec
  have hby := Bd.bytes
  have hml : c.maxLocals = 2 := hml0
  have hown : s.vm.findClass "com/example/tranca/tranca/FencingTokens" = some m.cls := findClass_of_methodNamed Bd.named
  have hnm := (name_of_methodNamed Bd.named Bd.method).1
  have hlk := Bd.notSynchronized
  have X0 : Stand p l e ({ frames := 0, cells := 0, slots := 0, locals := 0 } : Room) s m #[(.long q)] below meth c s₁ [] 0 0 := Stand.of_body Bd
  have e0 : s₁.heap = h0 := by rw [← hh, Bd.state]; rfl
  have N0 := Fr.nil n0
  show Go p e below s (Qrm3 Z q h0 n0) ({ frames := 0, cells := 0, slots := 0, locals := 0 } : Room).cells ({ frames := 0, cells := 0, slots := 0, locals := 0 } : Room).slots s₁ (entryFrame m #[(.long q)] 2)
  refine Go.eq (ef_rm3 m q) ?_
  show Go p e below s _ _ _ s₁ (mkF m 0 #[.val (.long q), .second] [])
  refine Go.st (fun _ => XS.lloadN X0.here hx rfl (hb hby d3_0) rfl) ?_
  show Go p e below s _ _ _ s₁ (mkF m 1 #[.val (.long q), .second] [(.long q)])
  refine Go.st (fun _ => XS.lconst X0.here hx rfl (hb hby d3_1)) ?_
  show Go p e below s _ _ _ s₁ (mkF m 2 #[.val (.long q), .second] [(.long (1 : Int64)), (.long q)])
  refine Go.st (fun _ => XS.lcmp X0.here hx rfl (hb hby d3_2) rfl) ?_
  show Go p e below s _ _ _ s₁ (mkF m 3 #[.val (.long q), .second] [(.int (lcmpW q (1 : Int64)))])
  refine Go.st (fun _ => XS.ifYes X0.here hx rfl (pc0 := 3) (pc' := 20) rfl (hb hby d3_3) rfl ((if0 _ _).trans (flt (fun qq => hq ((lw_lt q (1 : Int64)).mp qq))).2.1) (by decide) (by decide)) ?_
  show Go p e below s _ _ _ s₁ (mkF m 20 #[.val (.long q), .second] [])
  refine Go.st (fun _ => XS.lloadN X0.here hx rfl (hb hby d3_20) rfl) ?_
  show Go p e below s _ _ _ s₁ (mkF m 21 #[.val (.long q), .second] [(.long q)])
  exact Go.retJ X0 hx hlk Bd.returns (hb hby d3_21) (by rw [e0]; exact ⟨rfl, N0, rfl⟩) (by decide) (by decide)
theorem d4_0 : decode prog_7_method_1_code 0 = .ok (.aload_n 0, 1) := by decide +kernel
theorem d4_1 : decode prog_7_method_1_code 1 = .ok (.invokespecial 1, 3) := by decide +kernel
theorem d4_4 : decode prog_7_method_1_code 4 = .ok (.aload_n 0, 1) := by decide +kernel
theorem d4_5 : decode prog_7_method_1_code 5 = .ok (.lload_n 1, 1) := by decide +kernel
theorem d4_6 : decode prog_7_method_1_code 6 = .ok (.putfield 7, 3) := by decide +kernel
theorem d4_9 : decode prog_7_method_1_code 9 = .ok (.aload_n 0, 1) := by decide +kernel
theorem d4_10 : decode prog_7_method_1_code 10 = .ok (.iload_n 3, 1) := by decide +kernel
theorem d4_11 : decode prog_7_method_1_code 11 = .ok (.putfield 13, 3) := by decide +kernel
theorem d4_14 : decode prog_7_method_1_code 14 = .ok (.return_, 1) := by decide +kernel
theorem pn_1 : plainName "com/example/tranca/tranca/LockBackend$Handoff" = true := by first | (simp [plainName, overriddenIn]; done) | decide +kernel
theorem ef_rm4 (m : MethodId) (a : Addr) (q : Int64) (z : Int32) : entryFrame m #[(.ref a), (.long q), (.int z)] 4 = mkF m 0 #[.val (.ref a), .val (.long q), .second, .val (.int z)] [] := by first | (simp [entryFrame, mkF, argsToLocals, Value.category]; done) | rfl
def Qrm4 (Z : State) (a : Addr) (q : Int64) (z : Int32) (h0 : Heap) (n0 : Nat) (rV : Option Value) (hE : Heap) (LE : List Loc) : Prop := rV = none ∧ Fr n0 LE ∧ Keep h0 hE [a] ∧ Exa Z hE a "com/example/tranca/tranca/LockBackend$Handoff" ∧ Fld Z hE a "com/example/tranca/tranca/LockBackend$Handoff" "fencingToken" "J" (.long q) ∧ Fld Z hE a "com/example/tranca/tranca/LockBackend$Handoff" "wasHeld" "Z" (.int (nar .boolean z))
set_option maxRecDepth 65536 in
set_option maxHeartbeats 40000000 in
theorem rm4 (l : Launch) (Z : State) (a0 : Array Value) (hw : ∀ d ∈ tables_1, d.before a0 Z = true) (ws : List Jvm.Cond) (a : Addr) (q : Int64) (z : Int32) (h0 : Heap) (n0 : Nat) (Z0 : n0 ≤ h0.size) (E_a : Exa Z h0 a "com/example/tranca/tranca/LockBackend$Handoff") (F_fencingToken_a : Fld Z h0 a "com/example/tranca/tranca/LockBackend$Handoff" "fencingToken" "J" (.long (0 : Int64))) (F_wasHeld_a : Fld Z h0 a "com/example/tranca/tranca/LockBackend$Handoff" "wasHeld" "Z" (.int (0 : Int32))) (g_a : n0 ≤ a) :
    MetFree l (⟨"com/example/tranca/tranca/LockBackend$Handoff", "<init>", "(JZ)V"⟩ : MethodName) (head1 (Jvm.Cond.code (⟨"com/example/tranca/tranca/LockBackend$Handoff", "<init>", "(JZ)V"⟩ : MethodName) prog_7_method_1_code 4 none :: ws) ({ frames := 1, cells := 0, slots := 0, locals := 12 } : Room)) (fun aA UA => aA = #[(.ref a), (.long q), (.int z)] ∧ Z.Warmed39 UA.vm ∧ UA.heap = h0) (fun _ _ _ _ _ => True) (fun _ UA oA UB => ∃ rV LE, oA = .returned rV ∧ Qrm4 Z a q z h0 n0 rV UB.heap LE ∧ FrameEnd UA oA UB LE ({ frames := 1, cells := 0, slots := 0, locals := 12 } : Room).cells ({ frames := 1, cells := 0, slots := 0, locals := 12 } : Room).slots) := by
  refine MetFree.of_bodySF (plainFor_of_name pn_1) hisR ?_
  intro p e s m args below meth c s₁ Bd hml0 hP hK
  obtain ⟨rfl, hZ, hh⟩ := hP
  have hx := Bd.exec
  have hby := Bd.bytes
  have hml : c.maxLocals = 4 := hml0
  have hown : s.vm.findClass "com/example/tranca/tranca/LockBackend$Handoff" = some m.cls := findClass_of_methodNamed Bd.named
  have hnm := (name_of_methodNamed Bd.named Bd.method).1
  have hlk := Bd.notSynchronized
  have X0 : Stand p l e ({ frames := 1, cells := 0, slots := 0, locals := 12 } : Room) s m #[(.ref a), (.long q), (.int z)] below meth c s₁ [] 0 0 := Stand.of_body Bd
  have e0 : s₁.heap = h0 := by rw [← hh, Bd.state]; rfl
  have N0 := Fr.nil n0
  show Go p e below s (Qrm4 Z a q z h0 n0) ({ frames := 1, cells := 0, slots := 0, locals := 12 } : Room).cells ({ frames := 1, cells := 0, slots := 0, locals := 12 } : Room).slots s₁ (entryFrame m #[(.ref a), (.long q), (.int z)] 4)
  refine Go.eq (ef_rm4 m a q z) ?_
  show Go p e below s _ _ _ s₁ (mkF m 0 #[.val (.ref a), .val (.long q), .second, .val (.int z)] [])
  refine Go.st (fun _ => XS.aloadN X0.here hx rfl (hb hby d4_0) rfl rfl) ?_
  show Go p e below s _ _ _ s₁ (mkF m 1 #[.val (.ref a), .val (.long q), .second, .val (.int z)] [(.ref a)])
  obtain ⟨T1, X1, e1, st1⟩ := initO X0 hx hZ hown (hw _ (List.mem_of_getElem? (i := 18) rfl)) (hw _ (List.mem_of_getElem? (i := 19) rfl)) (hw _ (List.mem_of_getElem? (i := 20) rfl)) e0 (g := (mkF m 1 #[.val (.ref a), .val (.long q), .second, .val (.int z)] [(.ref a)])) rfl (by rw [hml]; rfl) rfl (hb hby d4_1) (by decide) (W := 0) (by show 2 * 0 + _ ≤ _; exact Nat.le_of_eq rfl) (by decide)
  refine Go.st st1 ?_
  show Go p e below s _ _ _ T1 (mkF m 4 #[.val (.ref a), .val (.long q), .second, .val (.int z)] [])
  refine Go.st (fun _ => XS.aloadN X1.here hx rfl (hb hby d4_4) rfl rfl) ?_
  show Go p e below s _ _ _ T1 (mkF m 5 #[.val (.ref a), .val (.long q), .second, .val (.int z)] [(.ref a)])
  refine Go.st (fun _ => XS.lloadN X1.here hx rfl (hb hby d4_5) rfl) ?_
  show Go p e below s _ _ _ T1 (mkF m 6 #[.val (.ref a), .val (.long q), .second, .val (.int z)] [(.long q), (.ref a)])
  obtain ⟨T2, h2, X2, e2, W2, st2⟩ := putF X1 hx hZ hown (host := "") (Or.inl (hw _ (List.mem_of_getElem? (i := 21) rfl))) Via.refl e1 F_fencingToken_a E_a (Or.inr ⟨(hw _ (List.mem_of_getElem? (i := 22) rfl)), rfl, hnm⟩) (hw _ (List.mem_of_getElem? (i := 10) rfl)) (ty := .long) (by decide) rfl rfl (g := (mkF m 6 #[.val (.ref a), .val (.long q), .second, .val (.int z)] [(.long q), (.ref a)])) rfl rfl (hb hby d4_6)
  refine Go.st st2 ?_
  have N2 := Fr.snoc X2 N0 g_a
  have K2 : Keep h0 h2 [a] := (Keep.refl h0 [a]).wr W2 (Or.inl (List.mem_of_getElem? (i := 0) rfl))
  have z2 : n0 ≤ h2.size := Nat.le_trans Z0 (Nat.le_of_eq W2.size.symm)
  have Fw2 := F_fencingToken_a.same W2
  show Go p e below s _ _ _ T2 (mkF m 9 #[.val (.ref a), .val (.long q), .second, .val (.int z)] [])
  refine Go.st (fun _ => XS.aloadN X2.here hx rfl (hb hby d4_9) rfl rfl) ?_
  show Go p e below s _ _ _ T2 (mkF m 10 #[.val (.ref a), .val (.long q), .second, .val (.int z)] [(.ref a)])
  refine Go.st (fun _ => XS.iloadN X2.here hx rfl (hb hby d4_10) rfl) ?_
  show Go p e below s _ _ _ T2 (mkF m 11 #[.val (.ref a), .val (.long q), .second, .val (.int z)] [(.int z), (.ref a)])
  have f3 := (E_a.wr W2)
  have f4 := (F_wasHeld_a.other W2 (Or.inr (slot_ne (Or.inr (hw _ (List.mem_of_getElem? (i := 24) rfl))) (Or.inr (hw _ (List.mem_of_getElem? (i := 22) rfl))) (by decide) (t := .boolean) (t' := .long) (by decide) (by decide))))
  obtain ⟨T5, h5, X5, e5, W5, st5⟩ := putFN X2 hx hZ hown (hw _ (List.mem_of_getElem? (i := 23) rfl)) Via.refl e2 f4 f3 (Or.inr ⟨(hw _ (List.mem_of_getElem? (i := 24) rfl)), rfl, hnm⟩) (hw _ (List.mem_of_getElem? (i := 10) rfl)) (ty := .boolean) (v' := (.int (nar .boolean z))) (by decide) rfl (fits_nar_bool _) (g := (mkF m 11 #[.val (.ref a), .val (.long q), .second, .val (.int z)] [(.int z), (.ref a)])) rfl rfl (hb hby d4_11)
  refine Go.st st5 ?_
  have N5 := Fr.snoc X5 N2 g_a
  have K5 : Keep h0 h5 [a] := K2.wr W5 (Or.inl (List.mem_of_getElem? (i := 0) rfl))
  have z5 : n0 ≤ h5.size := Nat.le_trans z2 (Nat.le_of_eq W5.size.symm)
  have Fw5 := f4.same W5
  show Go p e below s _ _ _ T5 (mkF m 14 #[.val (.ref a), .val (.long q), .second, .val (.int z)] [])
  have f6 := (f3.wr W5)
  have f7 := (Fw2.other W5 (Or.inr (slot_ne (Or.inr (hw _ (List.mem_of_getElem? (i := 22) rfl))) (Or.inr (hw _ (List.mem_of_getElem? (i := 24) rfl))) (by decide) (t := .long) (t' := .boolean) (by decide) (by decide))))
  exact Go.ret0 X5 hx hlk Bd.returns (hb hby d4_14) (by rw [e5]; exact ⟨rfl, N5, K5, f6, f7, Fw5⟩) (by decide) (by decide)
theorem d2_0 : decode prog_7_method_2_code 0 = .ok (.new 8, 3) := by decide +kernel
theorem d2_3 : decode prog_7_method_2_code 3 = .ok (.dup, 1) := by decide +kernel
theorem d2_4 : decode prog_7_method_2_code 4 = .ok (.lload_n 0, 1) := by decide +kernel
theorem d2_5 : decode prog_7_method_2_code 5 = .ok (.invokestatic 17, 3) := by decide +kernel
theorem pd_0 : parseMethodDescriptor "(J)J" = some ⟨[.long], some .long⟩ := by decide +kernel
theorem d2_8 : decode prog_7_method_2_code 8 = .ok (.iconst 1, 1) := by decide +kernel
theorem d2_9 : decode prog_7_method_2_code 9 = .ok (.invokespecial 23, 3) := by decide +kernel
theorem pd_1 : parseMethodDescriptor "(JZ)V" = some ⟨[.long, .boolean], none⟩ := by decide +kernel
theorem d2_12 : decode prog_7_method_2_code 12 = .ok (.areturn, 1) := by decide +kernel
theorem ef_rm2 (m : MethodId) (q : Int64) : entryFrame m #[(.long q)] 2 = mkF m 0 #[.val (.long q), .second] [] := by first | (simp [entryFrame, mkF, argsToLocals, Value.category]; done) | rfl
def Qrm2 (Z : State) (q : Int64) (h0 : Heap) (n0 : Nat) (rV : Option Value) (hE : Heap) (LE : List Loc) : Prop := ∃ b : Addr, rV = some (.ref b) ∧ Fr n0 LE ∧ Keep h0 hE [] ∧ n0 ≤ b ∧ h0.size ≤ b ∧ Exa Z hE b "com/example/tranca/tranca/LockBackend$Handoff" ∧ Fld Z hE b "com/example/tranca/tranca/LockBackend$Handoff" "fencingToken" "J" (.long q) ∧ Fld Z hE b "com/example/tranca/tranca/LockBackend$Handoff" "wasHeld" "Z" (.int (1 : Int32))
set_option maxRecDepth 65536 in
set_option maxHeartbeats 40000000 in
theorem rm2 (l : Launch) (Z : State) (a0 : Array Value) (hw : ∀ d ∈ tables_1, d.before a0 Z = true) (ws : List Jvm.Cond) (q : Int64) (h0 : Heap) (n0 : Nat) (Z0 : n0 ≤ h0.size) (hq : ¬ (q < (1 : Int64))) :
    MetFree l (⟨"com/example/tranca/tranca/LockBackend$Handoff", "handedOff", "(J)Lcom/example/tranca/tranca/LockBackend$Handoff;"⟩ : MethodName) (head1 (Jvm.Cond.code (⟨"com/example/tranca/tranca/LockBackend$Handoff", "handedOff", "(J)Lcom/example/tranca/tranca/LockBackend$Handoff;"⟩ : MethodName) prog_7_method_2_code 2 (some (.object "com/example/tranca/tranca/LockBackend$Handoff")) :: ws) ({ frames := 2, cells := 1, slots := 2, locals := 28 } : Room)) (fun aA UA => aA = #[(.long q)] ∧ Z.Warmed39 UA.vm ∧ UA.heap = h0) (fun _ _ _ _ _ => True) (fun _ UA oA UB => ∃ rV LE, oA = .returned rV ∧ Qrm2 Z q h0 n0 rV UB.heap LE ∧ FrameEnd UA oA UB LE ({ frames := 2, cells := 1, slots := 2, locals := 28 } : Room).cells ({ frames := 2, cells := 1, slots := 2, locals := 28 } : Room).slots) := by
  refine MetFree.of_bodySF (plainFor_of_name pn_1) hisR ?_
  intro p e s m args below meth c s₁ Bd hml0 hP hK
  obtain ⟨rfl, hZ, hh⟩ := hP
  have hx := Bd.exec
  have hby := Bd.bytes
  have hml : c.maxLocals = 2 := hml0
  have hown : s.vm.findClass "com/example/tranca/tranca/LockBackend$Handoff" = some m.cls := findClass_of_methodNamed Bd.named
  have hnm := (name_of_methodNamed Bd.named Bd.method).1
  have hlk := Bd.notSynchronized
  have X0 : Stand p l e ({ frames := 2, cells := 1, slots := 2, locals := 28 } : Room) s m #[(.long q)] below meth c s₁ [] 0 0 := Stand.of_body Bd
  have e0 : s₁.heap = h0 := by rw [← hh, Bd.state]; rfl
  have N0 := Fr.nil n0
  show Go p e below s (Qrm2 Z q h0 n0) ({ frames := 2, cells := 1, slots := 2, locals := 28 } : Room).cells ({ frames := 2, cells := 1, slots := 2, locals := 28 } : Room).slots s₁ (entryFrame m #[(.long q)] 2)
  refine Go.eq (ef_rm2 m q) ?_
  show Go p e below s _ _ _ s₁ (mkF m 0 #[.val (.long q), .second] [])
  obtain ⟨T1, h1, X1, e1, E1, A1, D1, -, st1⟩ := newO X0 hx hZ hown (hw _ (List.mem_of_getElem? (i := 9) rfl)) (hw _ (List.mem_of_getElem? (i := 10) rfl)) (hw _ (List.mem_of_getElem? (i := 7) rfl)) e0 (g := (mkF m 0 #[.val (.long q), .second] [])) rfl (hb hby d2_0) (by decide) (by decide)
  obtain ⟨b1, g1⟩ : ∃ z, z = h0.size := ⟨_, rfl⟩
  rw [← g1] at A1 D1 st1
  refine Go.st st1 ?_
  have gg1 : n0 ≤ b1 := Nat.le_trans Z0 (Nat.le_of_eq g1.symm)
  have sz1 : h0.size ≤ b1 := Nat.le_trans (Keep.refl h0 []).1 (Nat.le_of_eq g1.symm)
  have K1 : Keep h0 h1 [] := (Keep.refl h0 []).ext E1
  have z1 : n0 ≤ h1.size := Nat.le_trans Z0 E1.1
  have F_fencingToken_b1 : Fld Z h1 b1 "com/example/tranca/tranca/LockBackend$Handoff" "fencingToken" "J" (.long (0 : Int64)) := D1 (Or.inr (hw _ (List.mem_of_getElem? (i := 22) rfl))) (ty := .long) (by decide)
  have F_wasHeld_b1 : Fld Z h1 b1 "com/example/tranca/tranca/LockBackend$Handoff" "wasHeld" "Z" (.int (0 : Int32)) := D1 (Or.inr (hw _ (List.mem_of_getElem? (i := 24) rfl))) (ty := .boolean) (by decide)
  show Go p e below s _ _ _ T1 (mkF m 3 #[.val (.long q), .second] [(.ref b1)])
  refine Go.st (fun _ => XS.dup X1.here hx rfl (hb hby d2_3) rfl rfl) ?_
  show Go p e below s _ _ _ T1 (mkF m 4 #[.val (.long q), .second] [(.ref b1), (.ref b1)])
  refine Go.st (fun _ => XS.lloadN X1.here hx rfl (hb hby d2_4) rfl) ?_
  show Go p e below s _ _ _ T1 (mkF m 5 #[.val (.long q), .second] [(.long q), (.ref b1), (.ref b1)])
  obtain ⟨_, _, ⟨T2, L2, kc2, nc2⟩, -, X2, ⟨Lc2, hQ2, l2, y2, z2⟩, st2⟩ := Jvm.LawKit.callS X1 hx (y := (⟨"com/example/tranca/tranca/FencingTokens", "requireValid", "(J)J"⟩ : MethodName)) hown (mvT hZ (hw _ (List.mem_of_getElem? (i := 11) rfl))) (mvT hZ (hw _ (List.mem_of_getElem? (i := 12) rfl))) (mvT hZ (hw _ (List.mem_of_getElem? (i := 13) rfl))) (mvT hZ (hw _ (List.mem_of_getElem? (i := 14) rfl))) (by decide) (backOf (W := 2) (rm3 l Z a0 hw [] q h1 n0 z1 hq) hZ (hw _ (List.mem_of_getElem? (i := 14) rfl)) (hw _ (List.mem_of_getElem? (i := 13) rfl)) (by decide) (by decide)) (g := (mkF m 5 #[.val (.long q), .second] [(.long q), (.ref b1), (.ref b1)])) rfl (by rw [hml]; rfl) (argsL := [(.long q)]) (rest := [(.ref b1), (.ref b1)]) (lenOf pd_0 rfl) rfl (by show 2 * 0 + _ ≤ _; exact Nat.le_of_eq rfl) (hb hby d2_5) (fun _ _ => ⟨rfl, e1, (by decide : 1 + 0 ≤ _), (by decide : 2 + 0 ≤ _)⟩)
  dsimp only [Pt.U, Pt.locs, Pt.cells, Pt.slots] at X2 l2 y2 z2 st2 hQ2
  subst l2 y2 z2
  obtain ⟨h2, e2⟩ : ∃ hh, T2.heap = hh := ⟨_, rfl⟩
  rw [e2] at hQ2
  obtain ⟨rfl, N2q, s2⟩ := hQ2
  have N2 := Fr.app N0 N2q
  refine Go.st st2 ?_
  rw [s2] at e2
  show Go p e below s _ _ _ T2 (mkF m 8 #[.val (.long q), .second] [(.long q), (.ref b1), (.ref b1)])
  refine Go.st (fun _ => XS.iconst X2.here hx rfl (hb hby d2_8)) ?_
  show Go p e below s _ _ _ T2 (mkF m 9 #[.val (.long q), .second] [(.int (1 : Int32)), (.long q), (.ref b1), (.ref b1)])
  obtain ⟨_, _, ⟨T3, L3, kc3, nc3⟩, -, X3, ⟨Lc3, hQ3, l3, y3, z3⟩, st3⟩ := X2.specialBack hx (y := (⟨"com/example/tranca/tranca/LockBackend$Handoff", "<init>", "(JZ)V"⟩ : MethodName)) rfl hown (mvT hZ (hw _ (List.mem_of_getElem? (i := 15) rfl))) (mvT hZ (hw _ (List.mem_of_getElem? (i := 16) rfl))) (mvT hZ (hw _ (List.mem_of_getElem? (i := 17) rfl))) (by decide) (backOf (W := 1) (rm4 l Z a0 hw [] b1 q (1 : Int32) h1 n0 z1 A1 F_fencingToken_b1 F_wasHeld_b1 gg1) hZ (hw _ (List.mem_of_getElem? (i := 17) rfl)) (hw _ (List.mem_of_getElem? (i := 7) rfl)) (by decide) (by decide)) (g := (mkF m 9 #[.val (.long q), .second] [(.int (1 : Int32)), (.long q), (.ref b1), (.ref b1)])) rfl (by rw [hml]; rfl) (Steps.refl _) (a := b1) (argsL := [(.long q), (.int (1 : Int32))]) (rest := [(.ref b1)]) (lenOf pd_1 rfl) rfl (by show 2 * 0 + _ ≤ _; exact Nat.le_of_eq rfl) (hb hby d2_9) (fun _ _ => ⟨rfl, e2, (by decide : 1 + 0 ≤ _), (by decide : 2 + 0 ≤ _)⟩)
  dsimp only [Pt.U, Pt.locs, Pt.cells, Pt.slots] at X3 l3 y3 z3 st3 hQ3
  subst l3 y3 z3
  obtain ⟨h3, e3⟩ : ∃ hh, T3.heap = hh := ⟨_, rfl⟩
  rw [e3] at hQ3
  obtain ⟨rfl, N3q, K3, p3_0, p3_1, p3_2⟩ := hQ3
  have N3 := Fr.app N2 N3q
  refine Go.st (fun _ kk => st3.trans kk) ?_
  have KK3 : Keep h0 h3 [] := K1.trans K3 (allS (Or.inr sz1) all0)
  have z3q : n0 ≤ h3.size := Nat.le_trans z1 K3.1
  rw [show (nar .boolean (1 : Int32)) = (1 : Int32) from by decide] at p3_2
  show Go p e below s _ _ _ T3 (mkF m 12 #[.val (.long q), .second] [(.ref b1)])
  exact Go.retA X3 hx hlk Bd.returns rfl rfl (hb hby d2_12) (by rw [e3]; exact ⟨b1, rfl, N3, KK3, gg1, sz1, p3_0, p3_1, p3_2⟩) (by decide) (by decide)
theorem d6_0 : decode prog_7_method_6_code 0 = .ok (.aload_n 0, 1) := by decide +kernel
theorem d6_1 : decode prog_7_method_6_code 1 = .ok (.getfield 7, 3) := by decide +kernel
theorem d6_4 : decode prog_7_method_6_code 4 = .ok (.lreturn, 1) := by decide +kernel
theorem ef_rm6 (m : MethodId) (a : Addr) : entryFrame m #[(.ref a)] 1 = mkF m 0 #[.val (.ref a)] [] := by first | (simp [entryFrame, mkF, argsToLocals, Value.category]; done) | rfl
def Qrm6 (Z : State) (a : Addr) (q : Int64) (h0 : Heap) (n0 : Nat) (rV : Option Value) (hE : Heap) (LE : List Loc) : Prop := rV = some (.long q) ∧ Fr n0 LE ∧ hE = h0
set_option maxRecDepth 65536 in
set_option maxHeartbeats 40000000 in
theorem rm6 (l : Launch) (Z : State) (a0 : Array Value) (hw : ∀ d ∈ tables_1, d.before a0 Z = true) (ws : List Jvm.Cond) (a : Addr) (q : Int64) (h0 : Heap) (n0 : Nat) (Z0 : n0 ≤ h0.size) (F_fencingToken_a : Fld Z h0 a "com/example/tranca/tranca/LockBackend$Handoff" "fencingToken" "J" (.long q)) :
    MetFree l (⟨"com/example/tranca/tranca/LockBackend$Handoff", "fencingToken", "()J"⟩ : MethodName) (head1 (Jvm.Cond.code (⟨"com/example/tranca/tranca/LockBackend$Handoff", "fencingToken", "()J"⟩ : MethodName) prog_7_method_6_code 1 (some .long) :: ws) ({ frames := 0, cells := 0, slots := 0, locals := 0 } : Room)) (fun aA UA => aA = #[(.ref a)] ∧ Z.Warmed39 UA.vm ∧ UA.heap = h0) (fun _ _ _ _ _ => True) (fun _ UA oA UB => ∃ rV LE, oA = .returned rV ∧ Qrm6 Z a q h0 n0 rV UB.heap LE ∧ FrameEnd UA oA UB LE ({ frames := 0, cells := 0, slots := 0, locals := 0 } : Room).cells ({ frames := 0, cells := 0, slots := 0, locals := 0 } : Room).slots) := by
  refine MetFree.of_bodySF (plainFor_of_name pn_1) hisR ?_
  intro p e s m args below meth c s₁ Bd hml0 hP hK
  obtain ⟨rfl, hZ, hh⟩ := hP
  have hx := Bd.exec
  have hby := Bd.bytes
  have hml : c.maxLocals = 1 := hml0
  have hown : s.vm.findClass "com/example/tranca/tranca/LockBackend$Handoff" = some m.cls := findClass_of_methodNamed Bd.named
  have hnm := (name_of_methodNamed Bd.named Bd.method).1
  have hlk := Bd.notSynchronized
  have X0 : Stand p l e ({ frames := 0, cells := 0, slots := 0, locals := 0 } : Room) s m #[(.ref a)] below meth c s₁ [] 0 0 := Stand.of_body Bd
  have e0 : s₁.heap = h0 := by rw [← hh, Bd.state]; rfl
  have N0 := Fr.nil n0
  show Go p e below s (Qrm6 Z a q h0 n0) ({ frames := 0, cells := 0, slots := 0, locals := 0 } : Room).cells ({ frames := 0, cells := 0, slots := 0, locals := 0 } : Room).slots s₁ (entryFrame m #[(.ref a)] 1)
  refine Go.eq (ef_rm6 m a) ?_
  show Go p e below s _ _ _ s₁ (mkF m 0 #[.val (.ref a)] [])
  refine Go.st (fun _ => XS.aloadN X0.here hx rfl (hb hby d6_0) rfl rfl) ?_
  show Go p e below s _ _ _ s₁ (mkF m 1 #[.val (.ref a)] [(.ref a)])
  obtain ⟨T1, X1, e1, st1⟩ := getF X0 hx hZ hown (host := "") (Or.inl (hw _ (List.mem_of_getElem? (i := 21) rfl))) Via.refl e0 F_fencingToken_a (g := (mkF m 1 #[.val (.ref a)] [(.ref a)])) rfl rfl (hb hby d6_1)
  refine Go.st st1 ?_
  show Go p e below s _ _ _ T1 (mkF m 4 #[.val (.ref a)] [(.long q)])
  exact Go.retJ X1 hx hlk Bd.returns (hb hby d6_4) (by rw [e1]; exact ⟨rfl, N0, rfl⟩) (by decide) (by decide)
theorem d7_0 : decode prog_7_method_5_code 0 = .ok (.aload_n 0, 1) := by decide +kernel
theorem d7_1 : decode prog_7_method_5_code 1 = .ok (.getfield 7, 3) := by decide +kernel
theorem d7_4 : decode prog_7_method_5_code 4 = .ok (.lconst 0, 1) := by decide +kernel
theorem d7_5 : decode prog_7_method_5_code 5 = .ok (.lcmp, 1) := by decide +kernel
theorem d7_6 : decode prog_7_method_5_code 6 = .ok (.ifCond .le 7, 3) := by decide +kernel
theorem d7_9 : decode prog_7_method_5_code 9 = .ok (.iconst 1, 1) := by decide +kernel
theorem d7_10 : decode prog_7_method_5_code 10 = .ok (.goto 4, 3) := by decide +kernel
theorem d7_14 : decode prog_7_method_5_code 14 = .ok (.ireturn, 1) := by decide +kernel
theorem d7_13 : decode prog_7_method_5_code 13 = .ok (.iconst 0, 1) := by decide +kernel
theorem ef_rm7 (m : MethodId) (a : Addr) : entryFrame m #[(.ref a)] 1 = mkF m 0 #[.val (.ref a)] [] := by first | (simp [entryFrame, mkF, argsToLocals, Value.category]; done) | rfl
def Qrm7 (Z : State) (a : Addr) (q : Int64) (h0 : Heap) (n0 : Nat) (rV : Option Value) (hE : Heap) (LE : List Loc) : Prop := rV = some (.int (b2i ((0 : Int64) < q))) ∧ Fr n0 LE ∧ hE = h0
set_option maxRecDepth 65536 in
set_option maxHeartbeats 40000000 in
theorem rm7 (l : Launch) (Z : State) (a0 : Array Value) (hw : ∀ d ∈ tables_1, d.before a0 Z = true) (ws : List Jvm.Cond) (a : Addr) (q : Int64) (h0 : Heap) (n0 : Nat) (Z0 : n0 ≤ h0.size) (F_fencingToken_a : Fld Z h0 a "com/example/tranca/tranca/LockBackend$Handoff" "fencingToken" "J" (.long q)) :
    MetFree l (⟨"com/example/tranca/tranca/LockBackend$Handoff", "isHandedOff", "()Z"⟩ : MethodName) (head1 (Jvm.Cond.code (⟨"com/example/tranca/tranca/LockBackend$Handoff", "isHandedOff", "()Z"⟩ : MethodName) prog_7_method_5_code 1 (some .boolean) :: ws) ({ frames := 0, cells := 0, slots := 0, locals := 0 } : Room)) (fun aA UA => aA = #[(.ref a)] ∧ Z.Warmed39 UA.vm ∧ UA.heap = h0) (fun _ _ _ _ _ => True) (fun _ UA oA UB => ∃ rV LE, oA = .returned rV ∧ Qrm7 Z a q h0 n0 rV UB.heap LE ∧ FrameEnd UA oA UB LE ({ frames := 0, cells := 0, slots := 0, locals := 0 } : Room).cells ({ frames := 0, cells := 0, slots := 0, locals := 0 } : Room).slots) := by
  refine MetFree.of_bodySF (plainFor_of_name pn_1) hisR ?_
  intro p e s m args below meth c s₁ Bd hml0 hP hK
  obtain ⟨rfl, hZ, hh⟩ := hP
  have hx := Bd.exec
  have hby := Bd.bytes
  have hml : c.maxLocals = 1 := hml0
  have hown : s.vm.findClass "com/example/tranca/tranca/LockBackend$Handoff" = some m.cls := findClass_of_methodNamed Bd.named
  have hnm := (name_of_methodNamed Bd.named Bd.method).1
  have hlk := Bd.notSynchronized
  have X0 : Stand p l e ({ frames := 0, cells := 0, slots := 0, locals := 0 } : Room) s m #[(.ref a)] below meth c s₁ [] 0 0 := Stand.of_body Bd
  have e0 : s₁.heap = h0 := by rw [← hh, Bd.state]; rfl
  have N0 := Fr.nil n0
  show Go p e below s (Qrm7 Z a q h0 n0) ({ frames := 0, cells := 0, slots := 0, locals := 0 } : Room).cells ({ frames := 0, cells := 0, slots := 0, locals := 0 } : Room).slots s₁ (entryFrame m #[(.ref a)] 1)
  refine Go.eq (ef_rm7 m a) ?_
  show Go p e below s _ _ _ s₁ (mkF m 0 #[.val (.ref a)] [])
  refine Go.st (fun _ => XS.aloadN X0.here hx rfl (hb hby d7_0) rfl rfl) ?_
  show Go p e below s _ _ _ s₁ (mkF m 1 #[.val (.ref a)] [(.ref a)])
  obtain ⟨T1, X1, e1, st1⟩ := getF X0 hx hZ hown (host := "") (Or.inl (hw _ (List.mem_of_getElem? (i := 21) rfl))) Via.refl e0 F_fencingToken_a (g := (mkF m 1 #[.val (.ref a)] [(.ref a)])) rfl rfl (hb hby d7_1)
  refine Go.st st1 ?_
  show Go p e below s _ _ _ T1 (mkF m 4 #[.val (.ref a)] [(.long q)])
  refine Go.st (fun _ => XS.lconst X1.here hx rfl (hb hby d7_4)) ?_
  show Go p e below s _ _ _ T1 (mkF m 5 #[.val (.ref a)] [(.long (0 : Int64)), (.long q)])
  refine Go.st (fun _ => XS.lcmp X1.here hx rfl (hb hby d7_5) rfl) ?_
  show Go p e below s _ _ _ T1 (mkF m 6 #[.val (.ref a)] [(.int (lcmpW q (0 : Int64)))])
  by_cases hc2 : (0 : Int64) < q
  · refine Go.st (fun _ => XS.ifNo X1.here hx rfl (hb hby d7_6) rfl ((if0 _ _).trans (tlt ((lw_gt q (0 : Int64)).mpr hc2)).2.2.2)) ?_
    show Go p e below s _ _ _ T1 (mkF m 9 #[.val (.ref a)] [])
    refine Go.st (fun _ => XS.iconst X1.here hx rfl (hb hby d7_9)) ?_
    show Go p e below s _ _ _ T1 (mkF m 10 #[.val (.ref a)] [(.int (1 : Int32))])
    refine Go.st (fun _ => XS.goto X1.here hx rfl (pc0 := 10) (pc' := 14) rfl (hb hby d7_10) (by decide) (by decide)) ?_
    show Go p e below s _ _ _ T1 (mkF m 14 #[.val (.ref a)] [(.int (1 : Int32))])
    exact Go.retZ X1 hx hlk Bd.returns (hb hby d7_14) rfl (by rw [e1]; exact ⟨(own_b2i_t hc2), N0, rfl⟩) (by decide) (by decide)
  · refine Go.st (fun _ => XS.ifYes X1.here hx rfl (pc0 := 6) (pc' := 13) rfl (hb hby d7_6) rfl ((if0 _ _).trans (flt (fun qq => hc2 ((lw_gt q (0 : Int64)).mp qq))).2.2.2) (by decide) (by decide)) ?_
    show Go p e below s _ _ _ T1 (mkF m 13 #[.val (.ref a)] [])
    refine Go.st (fun _ => XS.iconst X1.here hx rfl (hb hby d7_13)) ?_
    show Go p e below s _ _ _ T1 (mkF m 14 #[.val (.ref a)] [(.int (0 : Int32))])
    exact Go.retZ X1 hx hlk Bd.returns (hb hby d7_14) rfl (by rw [e1]; exact ⟨(own_b2i_f hc2), N0, rfl⟩) (by decide) (by decide)
theorem d8_0 : decode prog_7_method_7_code 0 = .ok (.aload_n 0, 1) := by decide +kernel
theorem d8_1 : decode prog_7_method_7_code 1 = .ok (.getfield 13, 3) := by decide +kernel
theorem d8_4 : decode prog_7_method_7_code 4 = .ok (.ireturn, 1) := by decide +kernel
theorem ef_rm8 (m : MethodId) (a : Addr) : entryFrame m #[(.ref a)] 1 = mkF m 0 #[.val (.ref a)] [] := by first | (simp [entryFrame, mkF, argsToLocals, Value.category]; done) | rfl
def Qrm8 (Z : State) (a : Addr) (h0 : Heap) (n0 : Nat) (rV : Option Value) (hE : Heap) (LE : List Loc) : Prop := rV = some (.int (1 : Int32)) ∧ Fr n0 LE ∧ hE = h0
set_option maxRecDepth 65536 in
set_option maxHeartbeats 40000000 in
theorem rm8 (l : Launch) (Z : State) (a0 : Array Value) (hw : ∀ d ∈ tables_1, d.before a0 Z = true) (ws : List Jvm.Cond) (a : Addr) (h0 : Heap) (n0 : Nat) (Z0 : n0 ≤ h0.size) (F_wasHeld_a : Fld Z h0 a "com/example/tranca/tranca/LockBackend$Handoff" "wasHeld" "Z" (.int (1 : Int32))) :
    MetFree l (⟨"com/example/tranca/tranca/LockBackend$Handoff", "wasHeld", "()Z"⟩ : MethodName) (head1 (Jvm.Cond.code (⟨"com/example/tranca/tranca/LockBackend$Handoff", "wasHeld", "()Z"⟩ : MethodName) prog_7_method_7_code 1 (some .boolean) :: ws) ({ frames := 0, cells := 0, slots := 0, locals := 0 } : Room)) (fun aA UA => aA = #[(.ref a)] ∧ Z.Warmed39 UA.vm ∧ UA.heap = h0) (fun _ _ _ _ _ => True) (fun _ UA oA UB => ∃ rV LE, oA = .returned rV ∧ Qrm8 Z a h0 n0 rV UB.heap LE ∧ FrameEnd UA oA UB LE ({ frames := 0, cells := 0, slots := 0, locals := 0 } : Room).cells ({ frames := 0, cells := 0, slots := 0, locals := 0 } : Room).slots) := by
  refine MetFree.of_bodySF (plainFor_of_name pn_1) hisR ?_
  intro p e s m args below meth c s₁ Bd hml0 hP hK
  obtain ⟨rfl, hZ, hh⟩ := hP
  have hx := Bd.exec
  have hby := Bd.bytes
  have hml : c.maxLocals = 1 := hml0
  have hown : s.vm.findClass "com/example/tranca/tranca/LockBackend$Handoff" = some m.cls := findClass_of_methodNamed Bd.named
  have hnm := (name_of_methodNamed Bd.named Bd.method).1
  have hlk := Bd.notSynchronized
  have X0 : Stand p l e ({ frames := 0, cells := 0, slots := 0, locals := 0 } : Room) s m #[(.ref a)] below meth c s₁ [] 0 0 := Stand.of_body Bd
  have e0 : s₁.heap = h0 := by rw [← hh, Bd.state]; rfl
  have N0 := Fr.nil n0
  show Go p e below s (Qrm8 Z a h0 n0) ({ frames := 0, cells := 0, slots := 0, locals := 0 } : Room).cells ({ frames := 0, cells := 0, slots := 0, locals := 0 } : Room).slots s₁ (entryFrame m #[(.ref a)] 1)
  refine Go.eq (ef_rm8 m a) ?_
  show Go p e below s _ _ _ s₁ (mkF m 0 #[.val (.ref a)] [])
  refine Go.st (fun _ => XS.aloadN X0.here hx rfl (hb hby d8_0) rfl rfl) ?_
  show Go p e below s _ _ _ s₁ (mkF m 1 #[.val (.ref a)] [(.ref a)])
  obtain ⟨T1, X1, e1, st1⟩ := getF X0 hx hZ hown (host := "") (Or.inl (hw _ (List.mem_of_getElem? (i := 23) rfl))) Via.refl e0 F_wasHeld_a (g := (mkF m 1 #[.val (.ref a)] [(.ref a)])) rfl rfl (hb hby d8_1)
  refine Go.st st1 ?_
  show Go p e below s _ _ _ T1 (mkF m 4 #[.val (.ref a)] [(.int (1 : Int32))])
  exact Go.retZ X1 hx hlk Bd.returns (hb hby d8_4) rfl (by rw [e1]; exact ⟨rfl, N0, rfl⟩) (by decide) (by decide)
theorem pd_2 : parseMethodDescriptor "(JJ)J" = some ⟨[.long, .long], some .long⟩ := by decide +kernel
theorem pd_3 : parseMethodDescriptor "(J)Lcom/example/tranca/tranca/LockBackend$Handoff;" = some ⟨[.long], some (.object "com/example/tranca/tranca/LockBackend$Handoff")⟩ := by decide +kernel
theorem pd_4 : parseMethodDescriptor "()J" = some ⟨[], some .long⟩ := by decide +kernel
theorem pd_5 : parseMethodDescriptor "()Z" = some ⟨[], some .boolean⟩ := by decide +kernel
theorem pn_2 : plainName "com/example/tranca/tranca/HandoffHandedOffPinLaw" = true := by first | (simp [plainName, overriddenIn]; done) | decide +kernel
theorem ef_rm0 (m : MethodId) (xa : Int64) (xb : Int64) : entryFrame m #[(.long xa), (.long xb)] maxLocals = mkF m 0 #[.val (.long xa), .second, .val (.long xb), .second, .unset, .unset, .unset, .unset, .unset, .unset, .unset, .unset] [] := by first | (simp [entryFrame, mkF, argsToLocals, Value.category, maxLocals]; done) | rfl
def Qrm0 (Z : State) (xa : Int64) (xb : Int64) (h0 : Heap) (n0 : Nat) (rV : Option Value) (hE : Heap) (LE : List Loc) : Prop := rV = some (.int (1 : Int32)) ∧ Fr n0 LE
set_option maxRecDepth 65536 in
set_option maxHeartbeats 40000000 in
theorem rm0 (l : Launch) (Z : State) (a0 : Array Value) (hw : ∀ d ∈ tables_1, d.before a0 Z = true) (ws : List Jvm.Cond) (xa : Int64) (xb : Int64) (h0 : Heap) (n0 : Nat) (Z0 : n0 ≤ h0.size) :
    MetFree l x (head1 (Jvm.Cond.code x code maxLocals ret :: ws) room_1) (fun aA UA => aA = #[(.long xa), (.long xb)] ∧ Z.Warmed39 UA.vm ∧ UA.heap = h0) (fun _ _ _ _ _ => True) (fun _ UA oA UB => ∃ rV LE, oA = .returned rV ∧ Qrm0 Z xa xb h0 n0 rV UB.heap LE ∧ FrameEnd UA oA UB LE room_1.cells room_1.slots) := by
  refine MetFree.of_bodySF (plainFor_of_name pn_2) hisR ?_
  intro p e s m args below meth c s₁ Bd hml0 hP hK
  obtain ⟨rfl, hZ, hh⟩ := hP
  have hx := Bd.exec
  have hby := Bd.bytes
  have hml : c.maxLocals = 12 := hml0
  have hown : s.vm.findClass "com/example/tranca/tranca/HandoffHandedOffPinLaw" = some m.cls := findClass_of_methodNamed Bd.named
  have hnm := (name_of_methodNamed Bd.named Bd.method).1
  have hlk := Bd.notSynchronized
  have X0 : Stand p l e room_1 s m #[(.long xa), (.long xb)] below meth c s₁ [] 0 0 := Stand.of_body Bd
  have e0 : s₁.heap = h0 := by rw [← hh, Bd.state]; rfl
  have N0 := Fr.nil n0
  show Go p e below s (Qrm0 Z xa xb h0 n0) room_1.cells room_1.slots s₁ (entryFrame m #[(.long xa), (.long xb)] maxLocals)
  refine Go.eq (ef_rm0 m xa xb) ?_
  show Go p e below s _ _ _ s₁ (mkF m 0 #[.val (.long xa), .second, .val (.long xb), .second, .unset, .unset, .unset, .unset, .unset, .unset, .unset, .unset] [])
  refine Go.st (fun _ => XS.lconst X0.here hx rfl (hb hby at_0)) ?_
  show Go p e below s _ _ _ s₁ (mkF m 1 #[.val (.long xa), .second, .val (.long xb), .second, .unset, .unset, .unset, .unset, .unset, .unset, .unset, .unset] [(.long (1 : Int64))])
  refine Go.st (fun _ => XS.lloadN X0.here hx rfl (hb hby at_1) rfl) ?_
  show Go p e below s _ _ _ s₁ (mkF m 2 #[.val (.long xa), .second, .val (.long xb), .second, .unset, .unset, .unset, .unset, .unset, .unset, .unset, .unset] [(.long xa), (.long (1 : Int64))])
  refine Go.st (fun t => X0.ldc2Long hx hown (mvT hZ (hw _ (List.mem_of_getElem? (i := 0) rfl))) (g := (mkF m 2 #[.val (.long xa), .second, .val (.long xb), .second, .unset, .unset, .unset, .unset, .unset, .unset, .unset, .unset] [(.long xa), (.long (1 : Int64))])) rfl (hb hby at_2) t) ?_
  show Go p e below s _ _ _ s₁ (mkF m 5 #[.val (.long xa), .second, .val (.long xb), .second, .unset, .unset, .unset, .unset, .unset, .unset, .unset, .unset] [(.long (9223372036854775807 : Int64)), (.long xa), (.long (1 : Int64))])
  refine Go.st (fun _ => XS.land X0.here hx rfl (hb hby at_5) rfl) ?_
  show Go p e below s _ _ _ s₁ (mkF m 6 #[.val (.long xa), .second, .val (.long xb), .second, .unset, .unset, .unset, .unset, .unset, .unset, .unset, .unset] [(.long (xa &&& (9223372036854775807 : Int64))), (.long (1 : Int64))])
  obtain ⟨_, _, ⟨T1, L1, kc1, nc1⟩, -, X1, ⟨Lc1, hQ1, l1, y1, z1⟩, st1⟩ := Jvm.LawKit.callS X0 hx (y := (⟨"java/lang/Math", "max", "(JJ)J"⟩ : MethodName)) hown (mvT hZ (hw _ (List.mem_of_getElem? (i := 1) rfl))) (mvT hZ (hw _ (List.mem_of_getElem? (i := 2) rfl))) (mvT hZ (hw _ (List.mem_of_getElem? (i := 3) rfl))) (mvT hZ (hw _ (List.mem_of_getElem? (i := 4) rfl))) (by decide) (backOf (W := 0) (rm1 l Z a0 hw [] (1 : Int64) (xa &&& (9223372036854775807 : Int64)) h0 n0 Z0 ) hZ (hw _ (List.mem_of_getElem? (i := 4) rfl)) (hw _ (List.mem_of_getElem? (i := 3) rfl)) (by decide) (by decide)) (g := (mkF m 6 #[.val (.long xa), .second, .val (.long xb), .second, .unset, .unset, .unset, .unset, .unset, .unset, .unset, .unset] [(.long (xa &&& (9223372036854775807 : Int64))), (.long (1 : Int64))])) rfl (by rw [hml]; rfl) (argsL := [(.long (1 : Int64)), (.long (xa &&& (9223372036854775807 : Int64)))]) (rest := []) (lenOf pd_2 rfl) rfl (by show 2 * 0 + _ ≤ _; exact Nat.le_of_eq rfl) (hb hby at_6) (fun _ _ => ⟨rfl, e0, (by decide : 0 + 0 ≤ _), (by decide : 0 + 0 ≤ _)⟩)
  dsimp only [Pt.U, Pt.locs, Pt.cells, Pt.slots] at X1 l1 y1 z1 st1 hQ1
  subst l1 y1 z1
  obtain ⟨h1, e1⟩ : ∃ hh, T1.heap = hh := ⟨_, rfl⟩
  rw [e1] at hQ1
  obtain ⟨rfl, N1q, s1⟩ := hQ1
  have N1 := Fr.app N0 N1q
  refine Go.st st1 ?_
  rw [s1] at e1
  show Go p e below s _ _ _ T1 (mkF m 9 #[.val (.long xa), .second, .val (.long xb), .second, .unset, .unset, .unset, .unset, .unset, .unset, .unset, .unset] [(.long (if (1 : Int64) < (xa &&& (9223372036854775807 : Int64)) then (xa &&& (9223372036854775807 : Int64)) else (1 : Int64)))])
  obtain ⟨t2, ht2⟩ : ∃ z, z = (if (1 : Int64) < (xa &&& (9223372036854775807 : Int64)) then (xa &&& (9223372036854775807 : Int64)) else (1 : Int64)) := ⟨_, rfl⟩
  rw [← ht2]
  show Go p e below s _ _ _ T1 (mkF m 9 #[.val (.long xa), .second, .val (.long xb), .second, .unset, .unset, .unset, .unset, .unset, .unset, .unset, .unset] [(.long t2)])
  have hk3 : ¬ (t2 < (1 : Int64)) := by rw [ht2]; exact own_mx _
  have hk4 : (0 : Int64) < t2 := by rw [ht2]; exact own_mx0 _
  refine Go.st (fun _ => XS.lstore X1.here hx rfl (hb hby at_9) rfl (l' := #[.val (.long xa), .second, .val (.long xb), .second, .val (.long t2), .second, .unset, .unset, .unset, .unset, .unset, .unset]) rfl) ?_
  show Go p e below s _ _ _ T1 (mkF m 11 #[.val (.long xa), .second, .val (.long xb), .second, .val (.long t2), .second, .unset, .unset, .unset, .unset, .unset, .unset] [])
  refine Go.st (fun _ => XS.lconst X1.here hx rfl (hb hby at_11)) ?_
  show Go p e below s _ _ _ T1 (mkF m 12 #[.val (.long xa), .second, .val (.long xb), .second, .val (.long t2), .second, .unset, .unset, .unset, .unset, .unset, .unset] [(.long (1 : Int64))])
  refine Go.st (fun _ => XS.lloadN X1.here hx rfl (hb hby at_12) rfl) ?_
  show Go p e below s _ _ _ T1 (mkF m 13 #[.val (.long xa), .second, .val (.long xb), .second, .val (.long t2), .second, .unset, .unset, .unset, .unset, .unset, .unset] [(.long xb), (.long (1 : Int64))])
  refine Go.st (fun t => X1.ldc2Long hx hown (mvT hZ (hw _ (List.mem_of_getElem? (i := 0) rfl))) (g := (mkF m 13 #[.val (.long xa), .second, .val (.long xb), .second, .val (.long t2), .second, .unset, .unset, .unset, .unset, .unset, .unset] [(.long xb), (.long (1 : Int64))])) rfl (hb hby at_13) t) ?_
  show Go p e below s _ _ _ T1 (mkF m 16 #[.val (.long xa), .second, .val (.long xb), .second, .val (.long t2), .second, .unset, .unset, .unset, .unset, .unset, .unset] [(.long (9223372036854775807 : Int64)), (.long xb), (.long (1 : Int64))])
  refine Go.st (fun _ => XS.land X1.here hx rfl (hb hby at_16) rfl) ?_
  show Go p e below s _ _ _ T1 (mkF m 17 #[.val (.long xa), .second, .val (.long xb), .second, .val (.long t2), .second, .unset, .unset, .unset, .unset, .unset, .unset] [(.long (xb &&& (9223372036854775807 : Int64))), (.long (1 : Int64))])
  obtain ⟨_, _, ⟨T5, L5, kc5, nc5⟩, -, X5, ⟨Lc5, hQ5, l5, y5, z5⟩, st5⟩ := Jvm.LawKit.callS X1 hx (y := (⟨"java/lang/Math", "max", "(JJ)J"⟩ : MethodName)) hown (mvT hZ (hw _ (List.mem_of_getElem? (i := 1) rfl))) (mvT hZ (hw _ (List.mem_of_getElem? (i := 2) rfl))) (mvT hZ (hw _ (List.mem_of_getElem? (i := 3) rfl))) (mvT hZ (hw _ (List.mem_of_getElem? (i := 4) rfl))) (by decide) (backOf (W := 0) (rm1 l Z a0 hw [] (1 : Int64) (xb &&& (9223372036854775807 : Int64)) h0 n0 Z0 ) hZ (hw _ (List.mem_of_getElem? (i := 4) rfl)) (hw _ (List.mem_of_getElem? (i := 3) rfl)) (by decide) (by decide)) (g := (mkF m 17 #[.val (.long xa), .second, .val (.long xb), .second, .val (.long t2), .second, .unset, .unset, .unset, .unset, .unset, .unset] [(.long (xb &&& (9223372036854775807 : Int64))), (.long (1 : Int64))])) rfl (by rw [hml]; rfl) (argsL := [(.long (1 : Int64)), (.long (xb &&& (9223372036854775807 : Int64)))]) (rest := []) (lenOf pd_2 rfl) rfl (by show 2 * 0 + _ ≤ _; exact Nat.le_of_eq rfl) (hb hby at_17) (fun _ _ => ⟨rfl, e1, (by decide : 0 + 0 ≤ _), (by decide : 0 + 0 ≤ _)⟩)
  dsimp only [Pt.U, Pt.locs, Pt.cells, Pt.slots] at X5 l5 y5 z5 st5 hQ5
  subst l5 y5 z5
  obtain ⟨h5, e5⟩ : ∃ hh, T5.heap = hh := ⟨_, rfl⟩
  rw [e5] at hQ5
  obtain ⟨rfl, N5q, s5⟩ := hQ5
  have N5 := Fr.app N1 N5q
  refine Go.st st5 ?_
  rw [s5] at e5
  show Go p e below s _ _ _ T5 (mkF m 20 #[.val (.long xa), .second, .val (.long xb), .second, .val (.long t2), .second, .unset, .unset, .unset, .unset, .unset, .unset] [(.long (if (1 : Int64) < (xb &&& (9223372036854775807 : Int64)) then (xb &&& (9223372036854775807 : Int64)) else (1 : Int64)))])
  obtain ⟨t6, ht6⟩ : ∃ z, z = (if (1 : Int64) < (xb &&& (9223372036854775807 : Int64)) then (xb &&& (9223372036854775807 : Int64)) else (1 : Int64)) := ⟨_, rfl⟩
  rw [← ht6]
  show Go p e below s _ _ _ T5 (mkF m 20 #[.val (.long xa), .second, .val (.long xb), .second, .val (.long t2), .second, .unset, .unset, .unset, .unset, .unset, .unset] [(.long t6)])
  have hk7 : ¬ (t6 < (1 : Int64)) := by rw [ht6]; exact own_mx _
  have hk8 : (0 : Int64) < t6 := by rw [ht6]; exact own_mx0 _
  refine Go.st (fun _ => XS.lstore X5.here hx rfl (hb hby at_20) rfl (l' := #[.val (.long xa), .second, .val (.long xb), .second, .val (.long t2), .second, .val (.long t6), .second, .unset, .unset, .unset, .unset]) rfl) ?_
  show Go p e below s _ _ _ T5 (mkF m 22 #[.val (.long xa), .second, .val (.long xb), .second, .val (.long t2), .second, .val (.long t6), .second, .unset, .unset, .unset, .unset] [])
  refine Go.st (fun _ => XS.lload X5.here hx rfl (hb hby at_22) rfl) ?_
  show Go p e below s _ _ _ T5 (mkF m 24 #[.val (.long xa), .second, .val (.long xb), .second, .val (.long t2), .second, .val (.long t6), .second, .unset, .unset, .unset, .unset] [(.long t2)])
  obtain ⟨_, _, ⟨T9, L9, kc9, nc9⟩, -, X9, ⟨Lc9, hQ9, l9, y9, z9⟩, st9⟩ := Jvm.LawKit.callS X5 hx (y := (⟨"com/example/tranca/tranca/LockBackend$Handoff", "handedOff", "(J)Lcom/example/tranca/tranca/LockBackend$Handoff;"⟩ : MethodName)) hown (mvT hZ (hw _ (List.mem_of_getElem? (i := 5) rfl))) (mvT hZ (hw _ (List.mem_of_getElem? (i := 6) rfl))) (mvT hZ (hw _ (List.mem_of_getElem? (i := 7) rfl))) (mvT hZ (hw _ (List.mem_of_getElem? (i := 8) rfl))) (by decide) (backOf (W := 0) (rm2 l Z a0 hw [] t2 h0 n0 Z0 hk3) hZ (hw _ (List.mem_of_getElem? (i := 8) rfl)) (hw _ (List.mem_of_getElem? (i := 7) rfl)) (by decide) (by decide)) (g := (mkF m 24 #[.val (.long xa), .second, .val (.long xb), .second, .val (.long t2), .second, .val (.long t6), .second, .unset, .unset, .unset, .unset] [(.long t2)])) rfl (by rw [hml]; rfl) (argsL := [(.long t2)]) (rest := []) (lenOf pd_3 rfl) rfl (by show 2 * 0 + _ ≤ _; exact Nat.le_of_eq rfl) (hb hby at_24) (fun _ _ => ⟨rfl, e5, (by decide : 0 + 1 ≤ _), (by decide : 0 + 2 ≤ _)⟩)
  dsimp only [Pt.U, Pt.locs, Pt.cells, Pt.slots] at X9 l9 y9 z9 st9 hQ9
  subst l9 y9 z9
  obtain ⟨h9, e9⟩ : ∃ hh, T9.heap = hh := ⟨_, rfl⟩
  rw [e9] at hQ9
  obtain ⟨b_9, rfl, N9q, K9, p9_0, p9_1, p9_2, p9_3, p9_4⟩ := hQ9
  have N9 := Fr.app N5 N9q
  refine Go.st st9 ?_
  have z9q : n0 ≤ h9.size := Nat.le_trans Z0 K9.1
  show Go p e below s _ _ _ T9 (mkF m 27 #[.val (.long xa), .second, .val (.long xb), .second, .val (.long t2), .second, .val (.long t6), .second, .unset, .unset, .unset, .unset] [(.ref b_9)])
  refine Go.st (fun _ => XS.astore X9.here hx rfl (hb hby at_27) rfl rfl (l' := #[.val (.long xa), .second, .val (.long xb), .second, .val (.long t2), .second, .val (.long t6), .second, .val (.ref b_9), .unset, .unset, .unset]) rfl) ?_
  show Go p e below s _ _ _ T9 (mkF m 29 #[.val (.long xa), .second, .val (.long xb), .second, .val (.long t2), .second, .val (.long t6), .second, .val (.ref b_9), .unset, .unset, .unset] [])
  refine Go.st (fun _ => XS.lload X9.here hx rfl (hb hby at_29) rfl) ?_
  show Go p e below s _ _ _ T9 (mkF m 31 #[.val (.long xa), .second, .val (.long xb), .second, .val (.long t2), .second, .val (.long t6), .second, .val (.ref b_9), .unset, .unset, .unset] [(.long t6)])
  obtain ⟨_, _, ⟨T10, L10, kc10, nc10⟩, -, X10, ⟨Lc10, hQ10, l10, y10, z10⟩, st10⟩ := Jvm.LawKit.callS X9 hx (y := (⟨"com/example/tranca/tranca/LockBackend$Handoff", "handedOff", "(J)Lcom/example/tranca/tranca/LockBackend$Handoff;"⟩ : MethodName)) hown (mvT hZ (hw _ (List.mem_of_getElem? (i := 5) rfl))) (mvT hZ (hw _ (List.mem_of_getElem? (i := 6) rfl))) (mvT hZ (hw _ (List.mem_of_getElem? (i := 7) rfl))) (mvT hZ (hw _ (List.mem_of_getElem? (i := 8) rfl))) (by decide) (backOf (W := 0) (rm2 l Z a0 hw [] t6 h9 n0 z9q hk7) hZ (hw _ (List.mem_of_getElem? (i := 8) rfl)) (hw _ (List.mem_of_getElem? (i := 7) rfl)) (by decide) (by decide)) (g := (mkF m 31 #[.val (.long xa), .second, .val (.long xb), .second, .val (.long t2), .second, .val (.long t6), .second, .val (.ref b_9), .unset, .unset, .unset] [(.long t6)])) rfl (by rw [hml]; rfl) (argsL := [(.long t6)]) (rest := []) (lenOf pd_3 rfl) rfl (by show 2 * 0 + _ ≤ _; exact Nat.le_of_eq rfl) (hb hby at_31) (fun _ _ => ⟨rfl, e9, (by decide : 1 + 1 ≤ _), (by decide : 2 + 2 ≤ _)⟩)
  dsimp only [Pt.U, Pt.locs, Pt.cells, Pt.slots] at X10 l10 y10 z10 st10 hQ10
  subst l10 y10 z10
  obtain ⟨h10, e10⟩ : ∃ hh, T10.heap = hh := ⟨_, rfl⟩
  rw [e10] at hQ10
  obtain ⟨b_10, rfl, N10q, K10, p10_0, p10_1, p10_2, p10_3, p10_4⟩ := hQ10
  have N10 := Fr.app N9 N10q
  refine Go.st st10 ?_
  have ne_b_9_b_10 : b_9 ≠ b_10 := Nat.ne_of_lt (Nat.lt_of_lt_of_le p9_2.lt p10_1)
  have z10q : n0 ≤ h10.size := Nat.le_trans z9q K10.1
  show Go p e below s _ _ _ T10 (mkF m 34 #[.val (.long xa), .second, .val (.long xb), .second, .val (.long t2), .second, .val (.long t6), .second, .val (.ref b_9), .unset, .unset, .unset] [(.ref b_10)])
  refine Go.st (fun _ => XS.astore X10.here hx rfl (hb hby at_34) rfl rfl (l' := #[.val (.long xa), .second, .val (.long xb), .second, .val (.long t2), .second, .val (.long t6), .second, .val (.ref b_9), .val (.ref b_10), .unset, .unset]) rfl) ?_
  show Go p e below s _ _ _ T10 (mkF m 36 #[.val (.long xa), .second, .val (.long xb), .second, .val (.long t2), .second, .val (.long t6), .second, .val (.ref b_9), .val (.ref b_10), .unset, .unset] [])
  refine Go.st (fun _ => XS.aload X10.here hx rfl (hb hby at_36) rfl rfl) ?_
  show Go p e below s _ _ _ T10 (mkF m 38 #[.val (.long xa), .second, .val (.long xb), .second, .val (.long t2), .second, .val (.long t6), .second, .val (.ref b_9), .val (.ref b_10), .unset, .unset] [(.ref b_9)])
  have f12 := (p9_3.keep K10 nin0)
  have f13 := (p9_2.keep K10)
  obtain ⟨cq11, kq11, q11a, q11b, q11c⟩ := isOf hZ e10 f13
  obtain ⟨_, _, ⟨T11, L11, kc11, nc11⟩, -, X11, ⟨Lc11, hQ11, l11, y11, z11⟩, st11⟩ := X10.virtualBack hx (y := (⟨"com/example/tranca/tranca/LockBackend$Handoff", "fencingToken", "()J"⟩ : MethodName)) (z := (⟨"com/example/tranca/tranca/LockBackend$Handoff", "fencingToken", "()J"⟩ : MethodName)) hown (mvT hZ (hw _ (List.mem_of_getElem? (i := 25) rfl))) (mvT hZ (hw _ (List.mem_of_getElem? (i := 26) rfl))) (notFace_of_selects (args := #[]) (mvT hZ (hw _ (List.mem_of_getElem? (i := 28) rfl)))) (mvT hZ (hw _ (List.mem_of_getElem? (i := 28) rfl))) (mvT hZ (hw _ (List.mem_of_getElem? (i := 27) rfl))) (by decide) (backOf (W := 0) (rm6 l Z a0 hw [] b_9 t2 h10 n0 z10q f12) hZ (hw _ (List.mem_of_getElem? (i := 29) rfl)) (hw _ (List.mem_of_getElem? (i := 7) rfl)) (by decide) (by decide)) q11a q11c (g := (mkF m 38 #[.val (.long xa), .second, .val (.long xb), .second, .val (.long t2), .second, .val (.long t6), .second, .val (.ref b_9), .val (.ref b_10), .unset, .unset] [(.ref b_9)])) rfl (by rw [hml]; rfl) (Steps.refl _) (argsL := []) (rest := []) (lenOf pd_4 rfl) rfl (by show 2 * 0 + _ ≤ _; exact Nat.le_of_eq rfl) (hb hby at_38) (fun _ _ => ⟨rfl, e10, (by decide : 2 + 0 ≤ _), (by decide : 4 + 0 ≤ _)⟩)
  dsimp only [Pt.U, Pt.locs, Pt.cells, Pt.slots] at X11 l11 y11 z11 st11 hQ11
  subst l11 y11 z11
  obtain ⟨h11, e11⟩ : ∃ hh, T11.heap = hh := ⟨_, rfl⟩
  rw [e11] at hQ11
  obtain ⟨rfl, N11q, s11⟩ := hQ11
  have N11 := Fr.app N10 N11q
  refine Go.st (fun _ kk => st11.trans kk) ?_
  rw [s11] at e11
  show Go p e below s _ _ _ T11 (mkF m 41 #[.val (.long xa), .second, .val (.long xb), .second, .val (.long t2), .second, .val (.long t6), .second, .val (.ref b_9), .val (.ref b_10), .unset, .unset] [(.long t2)])
  refine Go.st (fun _ => XS.lload X11.here hx rfl (hb hby at_41) rfl) ?_
  show Go p e below s _ _ _ T11 (mkF m 43 #[.val (.long xa), .second, .val (.long xb), .second, .val (.long t2), .second, .val (.long t6), .second, .val (.ref b_9), .val (.ref b_10), .unset, .unset] [(.long t2), (.long t2)])
  refine Go.st (fun _ => XS.lcmp X11.here hx rfl (hb hby at_43) rfl) ?_
  show Go p e below s _ _ _ T11 (mkF m 44 #[.val (.long xa), .second, .val (.long xb), .second, .val (.long t2), .second, .val (.long t6), .second, .val (.ref b_9), .val (.ref b_10), .unset, .unset] [(.int (lcmpW t2 t2))])
  refine Go.st (fun _ => XS.ifNo X11.here hx rfl (hb hby at_44) rfl ((if0 _ _).trans (teq ((lw_eq t2 t2).mpr (rfl : t2 = t2))).2)) ?_
  show Go p e below s _ _ _ T11 (mkF m 47 #[.val (.long xa), .second, .val (.long xb), .second, .val (.long t2), .second, .val (.long t6), .second, .val (.ref b_9), .val (.ref b_10), .unset, .unset] [])
  refine Go.st (fun _ => XS.aload X11.here hx rfl (hb hby at_47) rfl rfl) ?_
  show Go p e below s _ _ _ T11 (mkF m 49 #[.val (.long xa), .second, .val (.long xb), .second, .val (.long t2), .second, .val (.long t6), .second, .val (.ref b_9), .val (.ref b_10), .unset, .unset] [(.ref b_9)])
  obtain ⟨cq14, kq14, q14a, q14b, q14c⟩ := isOf hZ e11 f13
  obtain ⟨_, _, ⟨T14, L14, kc14, nc14⟩, -, X14, ⟨Lc14, hQ14, l14, y14, z14⟩, st14⟩ := X11.virtualBack hx (y := (⟨"com/example/tranca/tranca/LockBackend$Handoff", "isHandedOff", "()Z"⟩ : MethodName)) (z := (⟨"com/example/tranca/tranca/LockBackend$Handoff", "isHandedOff", "()Z"⟩ : MethodName)) hown (mvT hZ (hw _ (List.mem_of_getElem? (i := 30) rfl))) (mvT hZ (hw _ (List.mem_of_getElem? (i := 31) rfl))) (notFace_of_selects (args := #[]) (mvT hZ (hw _ (List.mem_of_getElem? (i := 33) rfl)))) (mvT hZ (hw _ (List.mem_of_getElem? (i := 33) rfl))) (mvT hZ (hw _ (List.mem_of_getElem? (i := 32) rfl))) (by decide) (backOf (W := 0) (rm7 l Z a0 hw [] b_9 t2 h10 n0 z10q f12) hZ (hw _ (List.mem_of_getElem? (i := 34) rfl)) (hw _ (List.mem_of_getElem? (i := 7) rfl)) (by decide) (by decide)) q14a q14c (g := (mkF m 49 #[.val (.long xa), .second, .val (.long xb), .second, .val (.long t2), .second, .val (.long t6), .second, .val (.ref b_9), .val (.ref b_10), .unset, .unset] [(.ref b_9)])) rfl (by rw [hml]; rfl) (Steps.refl _) (argsL := []) (rest := []) (lenOf pd_5 rfl) rfl (by show 2 * 0 + _ ≤ _; exact Nat.le_of_eq rfl) (hb hby at_49) (fun _ _ => ⟨rfl, e11, (by decide : 2 + 0 ≤ _), (by decide : 4 + 0 ≤ _)⟩)
  dsimp only [Pt.U, Pt.locs, Pt.cells, Pt.slots] at X14 l14 y14 z14 st14 hQ14
  subst l14 y14 z14
  obtain ⟨h14, e14⟩ : ∃ hh, T14.heap = hh := ⟨_, rfl⟩
  rw [e14] at hQ14
  obtain ⟨rfl, N14q, s14⟩ := hQ14
  have N14 := Fr.app N11 N14q
  refine Go.st (fun _ kk => st14.trans kk) ?_
  rw [s14] at e14
  show Go p e below s _ _ _ T14 (mkF m 52 #[.val (.long xa), .second, .val (.long xb), .second, .val (.long t2), .second, .val (.long t6), .second, .val (.ref b_9), .val (.ref b_10), .unset, .unset] [(.int (b2i ((0 : Int64) < t2)))])
  rw [show (b2i ((0 : Int64) < t2)) = (1 : Int32) from b2i_pos hk4]
  show Go p e below s _ _ _ T14 (mkF m 52 #[.val (.long xa), .second, .val (.long xb), .second, .val (.long t2), .second, .val (.long t6), .second, .val (.ref b_9), .val (.ref b_10), .unset, .unset] [(.int (1 : Int32))])
  refine Go.st (fun _ => XS.ifNo X14.here hx rfl (hb hby at_52) rfl ((if0 _ _).trans (feq (by decide : ¬ ((1 : Int32) = (0 : Int32)))).1)) ?_
  show Go p e below s _ _ _ T14 (mkF m 55 #[.val (.long xa), .second, .val (.long xb), .second, .val (.long t2), .second, .val (.long t6), .second, .val (.ref b_9), .val (.ref b_10), .unset, .unset] [])
  refine Go.st (fun _ => XS.aload X14.here hx rfl (hb hby at_55) rfl rfl) ?_
  show Go p e below s _ _ _ T14 (mkF m 57 #[.val (.long xa), .second, .val (.long xb), .second, .val (.long t2), .second, .val (.long t6), .second, .val (.ref b_9), .val (.ref b_10), .unset, .unset] [(.ref b_9)])
  have f16 := (p9_4.keep K10 nin0)
  obtain ⟨cq15, kq15, q15a, q15b, q15c⟩ := isOf hZ e14 f13
  obtain ⟨_, _, ⟨T15, L15, kc15, nc15⟩, -, X15, ⟨Lc15, hQ15, l15, y15, z15⟩, st15⟩ := X14.virtualBack hx (y := (⟨"com/example/tranca/tranca/LockBackend$Handoff", "wasHeld", "()Z"⟩ : MethodName)) (z := (⟨"com/example/tranca/tranca/LockBackend$Handoff", "wasHeld", "()Z"⟩ : MethodName)) hown (mvT hZ (hw _ (List.mem_of_getElem? (i := 35) rfl))) (mvT hZ (hw _ (List.mem_of_getElem? (i := 36) rfl))) (notFace_of_selects (args := #[]) (mvT hZ (hw _ (List.mem_of_getElem? (i := 38) rfl)))) (mvT hZ (hw _ (List.mem_of_getElem? (i := 38) rfl))) (mvT hZ (hw _ (List.mem_of_getElem? (i := 37) rfl))) (by decide) (backOf (W := 0) (rm8 l Z a0 hw [] b_9 h10 n0 z10q f16) hZ (hw _ (List.mem_of_getElem? (i := 39) rfl)) (hw _ (List.mem_of_getElem? (i := 7) rfl)) (by decide) (by decide)) q15a q15c (g := (mkF m 57 #[.val (.long xa), .second, .val (.long xb), .second, .val (.long t2), .second, .val (.long t6), .second, .val (.ref b_9), .val (.ref b_10), .unset, .unset] [(.ref b_9)])) rfl (by rw [hml]; rfl) (Steps.refl _) (argsL := []) (rest := []) (lenOf pd_5 rfl) rfl (by show 2 * 0 + _ ≤ _; exact Nat.le_of_eq rfl) (hb hby at_57) (fun _ _ => ⟨rfl, e14, (by decide : 2 + 0 ≤ _), (by decide : 4 + 0 ≤ _)⟩)
  dsimp only [Pt.U, Pt.locs, Pt.cells, Pt.slots] at X15 l15 y15 z15 st15 hQ15
  subst l15 y15 z15
  obtain ⟨h15, e15⟩ : ∃ hh, T15.heap = hh := ⟨_, rfl⟩
  rw [e15] at hQ15
  obtain ⟨rfl, N15q, s15⟩ := hQ15
  have N15 := Fr.app N14 N15q
  refine Go.st (fun _ kk => st15.trans kk) ?_
  rw [s15] at e15
  show Go p e below s _ _ _ T15 (mkF m 60 #[.val (.long xa), .second, .val (.long xb), .second, .val (.long t2), .second, .val (.long t6), .second, .val (.ref b_9), .val (.ref b_10), .unset, .unset] [(.int (1 : Int32))])
  refine Go.st (fun _ => XS.ifNo X15.here hx rfl (hb hby at_60) rfl ((if0 _ _).trans (feq (by decide : ¬ ((1 : Int32) = (0 : Int32)))).1)) ?_
  show Go p e below s _ _ _ T15 (mkF m 63 #[.val (.long xa), .second, .val (.long xb), .second, .val (.long t2), .second, .val (.long t6), .second, .val (.ref b_9), .val (.ref b_10), .unset, .unset] [])
  refine Go.st (fun _ => XS.iconst X15.here hx rfl (hb hby at_63)) ?_
  show Go p e below s _ _ _ T15 (mkF m 64 #[.val (.long xa), .second, .val (.long xb), .second, .val (.long t2), .second, .val (.long t6), .second, .val (.ref b_9), .val (.ref b_10), .unset, .unset] [(.int (1 : Int32))])
  refine Go.st (fun _ => XS.goto X15.here hx rfl (pc0 := 64) (pc' := 68) rfl (hb hby at_64) (by decide) (by decide)) ?_
  show Go p e below s _ _ _ T15 (mkF m 68 #[.val (.long xa), .second, .val (.long xb), .second, .val (.long t2), .second, .val (.long t6), .second, .val (.ref b_9), .val (.ref b_10), .unset, .unset] [(.int (1 : Int32))])
  refine Go.st (fun _ => XS.istore X15.here hx rfl (hb hby at_68) rfl (l' := #[.val (.long xa), .second, .val (.long xb), .second, .val (.long t2), .second, .val (.long t6), .second, .val (.ref b_9), .val (.ref b_10), .val (.int (1 : Int32)), .unset]) rfl) ?_
  show Go p e below s _ _ _ T15 (mkF m 70 #[.val (.long xa), .second, .val (.long xb), .second, .val (.long t2), .second, .val (.long t6), .second, .val (.ref b_9), .val (.ref b_10), .val (.int (1 : Int32)), .unset] [])
  refine Go.st (fun _ => XS.aload X15.here hx rfl (hb hby at_70) rfl rfl) ?_
  show Go p e below s _ _ _ T15 (mkF m 72 #[.val (.long xa), .second, .val (.long xb), .second, .val (.long t2), .second, .val (.long t6), .second, .val (.ref b_9), .val (.ref b_10), .val (.int (1 : Int32)), .unset] [(.ref b_10)])
  obtain ⟨cq17, kq17, q17a, q17b, q17c⟩ := isOf hZ e15 p10_2
  obtain ⟨_, _, ⟨T17, L17, kc17, nc17⟩, -, X17, ⟨Lc17, hQ17, l17, y17, z17⟩, st17⟩ := X15.virtualBack hx (y := (⟨"com/example/tranca/tranca/LockBackend$Handoff", "fencingToken", "()J"⟩ : MethodName)) (z := (⟨"com/example/tranca/tranca/LockBackend$Handoff", "fencingToken", "()J"⟩ : MethodName)) hown (mvT hZ (hw _ (List.mem_of_getElem? (i := 25) rfl))) (mvT hZ (hw _ (List.mem_of_getElem? (i := 26) rfl))) (notFace_of_selects (args := #[]) (mvT hZ (hw _ (List.mem_of_getElem? (i := 28) rfl)))) (mvT hZ (hw _ (List.mem_of_getElem? (i := 28) rfl))) (mvT hZ (hw _ (List.mem_of_getElem? (i := 27) rfl))) (by decide) (backOf (W := 0) (rm6 l Z a0 hw [] b_10 t6 h10 n0 z10q p10_3) hZ (hw _ (List.mem_of_getElem? (i := 29) rfl)) (hw _ (List.mem_of_getElem? (i := 7) rfl)) (by decide) (by decide)) q17a q17c (g := (mkF m 72 #[.val (.long xa), .second, .val (.long xb), .second, .val (.long t2), .second, .val (.long t6), .second, .val (.ref b_9), .val (.ref b_10), .val (.int (1 : Int32)), .unset] [(.ref b_10)])) rfl (by rw [hml]; rfl) (Steps.refl _) (argsL := []) (rest := []) (lenOf pd_4 rfl) rfl (by show 2 * 0 + _ ≤ _; exact Nat.le_of_eq rfl) (hb hby at_72) (fun _ _ => ⟨rfl, e15, (by decide : 2 + 0 ≤ _), (by decide : 4 + 0 ≤ _)⟩)
  dsimp only [Pt.U, Pt.locs, Pt.cells, Pt.slots] at X17 l17 y17 z17 st17 hQ17
  subst l17 y17 z17
  obtain ⟨h17, e17⟩ : ∃ hh, T17.heap = hh := ⟨_, rfl⟩
  rw [e17] at hQ17
  obtain ⟨rfl, N17q, s17⟩ := hQ17
  have N17 := Fr.app N15 N17q
  refine Go.st (fun _ kk => st17.trans kk) ?_
  rw [s17] at e17
  show Go p e below s _ _ _ T17 (mkF m 75 #[.val (.long xa), .second, .val (.long xb), .second, .val (.long t2), .second, .val (.long t6), .second, .val (.ref b_9), .val (.ref b_10), .val (.int (1 : Int32)), .unset] [(.long t6)])
  refine Go.st (fun _ => XS.lload X17.here hx rfl (hb hby at_75) rfl) ?_
  show Go p e below s _ _ _ T17 (mkF m 77 #[.val (.long xa), .second, .val (.long xb), .second, .val (.long t2), .second, .val (.long t6), .second, .val (.ref b_9), .val (.ref b_10), .val (.int (1 : Int32)), .unset] [(.long t6), (.long t6)])
  refine Go.st (fun _ => XS.lcmp X17.here hx rfl (hb hby at_77) rfl) ?_
  show Go p e below s _ _ _ T17 (mkF m 78 #[.val (.long xa), .second, .val (.long xb), .second, .val (.long t2), .second, .val (.long t6), .second, .val (.ref b_9), .val (.ref b_10), .val (.int (1 : Int32)), .unset] [(.int (lcmpW t6 t6))])
  refine Go.st (fun _ => XS.ifNo X17.here hx rfl (hb hby at_78) rfl ((if0 _ _).trans (teq ((lw_eq t6 t6).mpr (rfl : t6 = t6))).2)) ?_
  show Go p e below s _ _ _ T17 (mkF m 81 #[.val (.long xa), .second, .val (.long xb), .second, .val (.long t2), .second, .val (.long t6), .second, .val (.ref b_9), .val (.ref b_10), .val (.int (1 : Int32)), .unset] [])
  refine Go.st (fun _ => XS.aload X17.here hx rfl (hb hby at_81) rfl rfl) ?_
  show Go p e below s _ _ _ T17 (mkF m 83 #[.val (.long xa), .second, .val (.long xb), .second, .val (.long t2), .second, .val (.long t6), .second, .val (.ref b_9), .val (.ref b_10), .val (.int (1 : Int32)), .unset] [(.ref b_10)])
  obtain ⟨cq18, kq18, q18a, q18b, q18c⟩ := isOf hZ e17 p10_2
  obtain ⟨_, _, ⟨T18, L18, kc18, nc18⟩, -, X18, ⟨Lc18, hQ18, l18, y18, z18⟩, st18⟩ := X17.virtualBack hx (y := (⟨"com/example/tranca/tranca/LockBackend$Handoff", "isHandedOff", "()Z"⟩ : MethodName)) (z := (⟨"com/example/tranca/tranca/LockBackend$Handoff", "isHandedOff", "()Z"⟩ : MethodName)) hown (mvT hZ (hw _ (List.mem_of_getElem? (i := 30) rfl))) (mvT hZ (hw _ (List.mem_of_getElem? (i := 31) rfl))) (notFace_of_selects (args := #[]) (mvT hZ (hw _ (List.mem_of_getElem? (i := 33) rfl)))) (mvT hZ (hw _ (List.mem_of_getElem? (i := 33) rfl))) (mvT hZ (hw _ (List.mem_of_getElem? (i := 32) rfl))) (by decide) (backOf (W := 0) (rm7 l Z a0 hw [] b_10 t6 h10 n0 z10q p10_3) hZ (hw _ (List.mem_of_getElem? (i := 34) rfl)) (hw _ (List.mem_of_getElem? (i := 7) rfl)) (by decide) (by decide)) q18a q18c (g := (mkF m 83 #[.val (.long xa), .second, .val (.long xb), .second, .val (.long t2), .second, .val (.long t6), .second, .val (.ref b_9), .val (.ref b_10), .val (.int (1 : Int32)), .unset] [(.ref b_10)])) rfl (by rw [hml]; rfl) (Steps.refl _) (argsL := []) (rest := []) (lenOf pd_5 rfl) rfl (by show 2 * 0 + _ ≤ _; exact Nat.le_of_eq rfl) (hb hby at_83) (fun _ _ => ⟨rfl, e17, (by decide : 2 + 0 ≤ _), (by decide : 4 + 0 ≤ _)⟩)
  dsimp only [Pt.U, Pt.locs, Pt.cells, Pt.slots] at X18 l18 y18 z18 st18 hQ18
  subst l18 y18 z18
  obtain ⟨h18, e18⟩ : ∃ hh, T18.heap = hh := ⟨_, rfl⟩
  rw [e18] at hQ18
  obtain ⟨rfl, N18q, s18⟩ := hQ18
  have N18 := Fr.app N17 N18q
  refine Go.st (fun _ kk => st18.trans kk) ?_
  rw [s18] at e18
  show Go p e below s _ _ _ T18 (mkF m 86 #[.val (.long xa), .second, .val (.long xb), .second, .val (.long t2), .second, .val (.long t6), .second, .val (.ref b_9), .val (.ref b_10), .val (.int (1 : Int32)), .unset] [(.int (b2i ((0 : Int64) < t6)))])
  rw [show (b2i ((0 : Int64) < t6)) = (1 : Int32) from b2i_pos hk8]
  show Go p e below s _ _ _ T18 (mkF m 86 #[.val (.long xa), .second, .val (.long xb), .second, .val (.long t2), .second, .val (.long t6), .second, .val (.ref b_9), .val (.ref b_10), .val (.int (1 : Int32)), .unset] [(.int (1 : Int32))])
  refine Go.st (fun _ => XS.ifNo X18.here hx rfl (hb hby at_86) rfl ((if0 _ _).trans (feq (by decide : ¬ ((1 : Int32) = (0 : Int32)))).1)) ?_
  show Go p e below s _ _ _ T18 (mkF m 89 #[.val (.long xa), .second, .val (.long xb), .second, .val (.long t2), .second, .val (.long t6), .second, .val (.ref b_9), .val (.ref b_10), .val (.int (1 : Int32)), .unset] [])
  refine Go.st (fun _ => XS.aload X18.here hx rfl (hb hby at_89) rfl rfl) ?_
  show Go p e below s _ _ _ T18 (mkF m 91 #[.val (.long xa), .second, .val (.long xb), .second, .val (.long t2), .second, .val (.long t6), .second, .val (.ref b_9), .val (.ref b_10), .val (.int (1 : Int32)), .unset] [(.ref b_10)])
  obtain ⟨cq19, kq19, q19a, q19b, q19c⟩ := isOf hZ e18 p10_2
  obtain ⟨_, _, ⟨T19, L19, kc19, nc19⟩, -, X19, ⟨Lc19, hQ19, l19, y19, z19⟩, st19⟩ := X18.virtualBack hx (y := (⟨"com/example/tranca/tranca/LockBackend$Handoff", "wasHeld", "()Z"⟩ : MethodName)) (z := (⟨"com/example/tranca/tranca/LockBackend$Handoff", "wasHeld", "()Z"⟩ : MethodName)) hown (mvT hZ (hw _ (List.mem_of_getElem? (i := 35) rfl))) (mvT hZ (hw _ (List.mem_of_getElem? (i := 36) rfl))) (notFace_of_selects (args := #[]) (mvT hZ (hw _ (List.mem_of_getElem? (i := 38) rfl)))) (mvT hZ (hw _ (List.mem_of_getElem? (i := 38) rfl))) (mvT hZ (hw _ (List.mem_of_getElem? (i := 37) rfl))) (by decide) (backOf (W := 0) (rm8 l Z a0 hw [] b_10 h10 n0 z10q p10_4) hZ (hw _ (List.mem_of_getElem? (i := 39) rfl)) (hw _ (List.mem_of_getElem? (i := 7) rfl)) (by decide) (by decide)) q19a q19c (g := (mkF m 91 #[.val (.long xa), .second, .val (.long xb), .second, .val (.long t2), .second, .val (.long t6), .second, .val (.ref b_9), .val (.ref b_10), .val (.int (1 : Int32)), .unset] [(.ref b_10)])) rfl (by rw [hml]; rfl) (Steps.refl _) (argsL := []) (rest := []) (lenOf pd_5 rfl) rfl (by show 2 * 0 + _ ≤ _; exact Nat.le_of_eq rfl) (hb hby at_91) (fun _ _ => ⟨rfl, e18, (by decide : 2 + 0 ≤ _), (by decide : 4 + 0 ≤ _)⟩)
  dsimp only [Pt.U, Pt.locs, Pt.cells, Pt.slots] at X19 l19 y19 z19 st19 hQ19
  subst l19 y19 z19
  obtain ⟨h19, e19⟩ : ∃ hh, T19.heap = hh := ⟨_, rfl⟩
  rw [e19] at hQ19
  obtain ⟨rfl, N19q, s19⟩ := hQ19
  have N19 := Fr.app N18 N19q
  refine Go.st (fun _ kk => st19.trans kk) ?_
  rw [s19] at e19
  show Go p e below s _ _ _ T19 (mkF m 94 #[.val (.long xa), .second, .val (.long xb), .second, .val (.long t2), .second, .val (.long t6), .second, .val (.ref b_9), .val (.ref b_10), .val (.int (1 : Int32)), .unset] [(.int (1 : Int32))])
  refine Go.st (fun _ => XS.ifNo X19.here hx rfl (hb hby at_94) rfl ((if0 _ _).trans (feq (by decide : ¬ ((1 : Int32) = (0 : Int32)))).1)) ?_
  show Go p e below s _ _ _ T19 (mkF m 97 #[.val (.long xa), .second, .val (.long xb), .second, .val (.long t2), .second, .val (.long t6), .second, .val (.ref b_9), .val (.ref b_10), .val (.int (1 : Int32)), .unset] [])
  refine Go.st (fun _ => XS.iconst X19.here hx rfl (hb hby at_97)) ?_
  show Go p e below s _ _ _ T19 (mkF m 98 #[.val (.long xa), .second, .val (.long xb), .second, .val (.long t2), .second, .val (.long t6), .second, .val (.ref b_9), .val (.ref b_10), .val (.int (1 : Int32)), .unset] [(.int (1 : Int32))])
  refine Go.st (fun _ => XS.goto X19.here hx rfl (pc0 := 98) (pc' := 102) rfl (hb hby at_98) (by decide) (by decide)) ?_
  show Go p e below s _ _ _ T19 (mkF m 102 #[.val (.long xa), .second, .val (.long xb), .second, .val (.long t2), .second, .val (.long t6), .second, .val (.ref b_9), .val (.ref b_10), .val (.int (1 : Int32)), .unset] [(.int (1 : Int32))])
  refine Go.st (fun _ => XS.istore X19.here hx rfl (hb hby at_102) rfl (l' := #[.val (.long xa), .second, .val (.long xb), .second, .val (.long t2), .second, .val (.long t6), .second, .val (.ref b_9), .val (.ref b_10), .val (.int (1 : Int32)), .val (.int (1 : Int32))]) rfl) ?_
  show Go p e below s _ _ _ T19 (mkF m 104 #[.val (.long xa), .second, .val (.long xb), .second, .val (.long t2), .second, .val (.long t6), .second, .val (.ref b_9), .val (.ref b_10), .val (.int (1 : Int32)), .val (.int (1 : Int32))] [])
  refine Go.st (fun _ => XS.iload X19.here hx rfl (hb hby at_104) rfl) ?_
  show Go p e below s _ _ _ T19 (mkF m 106 #[.val (.long xa), .second, .val (.long xb), .second, .val (.long t2), .second, .val (.long t6), .second, .val (.ref b_9), .val (.ref b_10), .val (.int (1 : Int32)), .val (.int (1 : Int32))] [(.int (1 : Int32))])
  refine Go.st (fun _ => XS.ifNo X19.here hx rfl (hb hby at_106) rfl ((if0 _ _).trans (feq (by decide : ¬ ((1 : Int32) = (0 : Int32)))).1)) ?_
  show Go p e below s _ _ _ T19 (mkF m 109 #[.val (.long xa), .second, .val (.long xb), .second, .val (.long t2), .second, .val (.long t6), .second, .val (.ref b_9), .val (.ref b_10), .val (.int (1 : Int32)), .val (.int (1 : Int32))] [])
  refine Go.st (fun _ => XS.iload X19.here hx rfl (hb hby at_109) rfl) ?_
  show Go p e below s _ _ _ T19 (mkF m 111 #[.val (.long xa), .second, .val (.long xb), .second, .val (.long t2), .second, .val (.long t6), .second, .val (.ref b_9), .val (.ref b_10), .val (.int (1 : Int32)), .val (.int (1 : Int32))] [(.int (1 : Int32))])
  refine Go.st (fun _ => XS.ifNo X19.here hx rfl (hb hby at_111) rfl ((if0 _ _).trans (feq (by decide : ¬ ((1 : Int32) = (0 : Int32)))).1)) ?_
  show Go p e below s _ _ _ T19 (mkF m 114 #[.val (.long xa), .second, .val (.long xb), .second, .val (.long t2), .second, .val (.long t6), .second, .val (.ref b_9), .val (.ref b_10), .val (.int (1 : Int32)), .val (.int (1 : Int32))] [])
  refine Go.st (fun _ => XS.iconst X19.here hx rfl (hb hby at_114)) ?_
  show Go p e below s _ _ _ T19 (mkF m 115 #[.val (.long xa), .second, .val (.long xb), .second, .val (.long t2), .second, .val (.long t6), .second, .val (.ref b_9), .val (.ref b_10), .val (.int (1 : Int32)), .val (.int (1 : Int32))] [(.int (1 : Int32))])
  refine Go.st (fun _ => XS.goto X19.here hx rfl (pc0 := 115) (pc' := 119) rfl (hb hby at_115) (by decide) (by decide)) ?_
  show Go p e below s _ _ _ T19 (mkF m 119 #[.val (.long xa), .second, .val (.long xb), .second, .val (.long t2), .second, .val (.long t6), .second, .val (.ref b_9), .val (.ref b_10), .val (.int (1 : Int32)), .val (.int (1 : Int32))] [(.int (1 : Int32))])
  exact Go.retZ X19 hx hlk Bd.returns (hb hby at_119) rfl (by rw [e19]; exact ⟨rfl, N19⟩) (by decide) (by decide)
set_option maxRecDepth 65536 in
set_option maxHeartbeats 40000000 in
theorem comes_1 {Post : Tables → Env → Array Value → State → Outcome → State → Prop} (hpost : ∀ tb e args s v u, (limb_1_1.after args s (.returned v) u = true ∧ limb_1_2.after args s (.returned v) u = true ∧ True) → FrameEnd s (.returned v) u (Jvm.fieldLocs frame_1_writes args s ++ Jvm.arrayLocs frame_1_arrays args s ++ Jvm.staticLocs frame_1_statics s) 16 128 → Post tb e args s (.returned v) u) :
    ArmFor flags0 classFile x code maxLocals ret World_1 tables_1 room_1 Calls_1 rest_1 Pre_1 Post := by
  intro l hfl _ _ p e ha hc hk s m args below hf hA hF happ hP
  obtain ⟨hcalls, hrest, hpre⟩ := hP
  obtain ⟨-, -, -, hnamed, -, -, -, hat⟩ := (Spec.applies_iff hf).mp happ
  obtain ⟨hg, hn⟩ := and_e (Cond.before_iff.mp (show (Jvm.Cond.and given_1 narrow_1).before args s = true from hpre))
  obtain ⟨g1, g2⟩ := and_e hg
  obtain ⟨g3, g4⟩ := and_e g2
  obtain ⟨w0, w1, rfl⟩ : ∃ w0 w1 : Value, args = #[w0, w1] := by
    have hs : args.size = 2 := by simpa [Cond.value, given_1] using g1
    obtain ⟨L⟩ := args
    match L, hs with
    | [w0, w1], _ => exact ⟨w0, w1, rfl⟩
  have hw := fun d (hd : d ∈ tables_1) => atoms_spec (ws := Jvm.Cond.code x code maxLocals ret :: tables_1) hat d (List.mem_cons_of_mem _ hd)
  have hfit : Fit s := fun {y c} hc i hi => by
    obtain ⟨ha, rfl⟩ := Array.getElem?_eq_some_iff.mp hc
    have q := List.all_eq_true.mp ((Array.all_eq_true_iff_forall_mem.mp hF) _ (Array.getElem_mem ha)) i (List.mem_range.mpr hi)
    simpa [Array.getElem?_eq_getElem hi] using q
  obtain ⟨i0, ei0⟩ := isL_v g3
  obtain rfl : w0 = (.long i0) := Option.some.inj ei0
  obtain ⟨i1, ei1⟩ := isL_v g4
  obtain rfl : w1 = (.long i1) := Option.some.inj ei1
  obtain ⟨n, o, h1, h2, h3, _, L, rfl, ⟨rfl, N⟩, hq⟩ := rm0 l s _ hw tables_1 i0 i1 s.heap s.heap.size (Nat.le_refl _)  p e ha hc hk s m _ below hf ((Spec.applies_iff_loose hf).mp happ).1 ⟨rfl, State.Warmed39.refl s, rfl⟩ trivial
  refine ⟨n, _, h1, h2, h3, hpost _ _ _ _ _ _ ⟨Cond.after_iff.mpr rfl, Cond.after_iff.mpr (eq_i res_at (Term.int_eval (1)) rfl), trivial⟩ ⟨hq.1, hq.2.1, (hq.2.2.sift fun y hy => Or.inr (N y hy)).mono (by decide) (by decide)⟩⟩
theorem main_1_1 : Claimed_1_1 := comes_1 fun _ _ _ _ _ _ h hF => ⟨h.1, hF⟩
theorem main_1_2 : Claimed_1_2 := comes_1 fun _ _ _ _ _ _ h hF => ⟨h.2.1, hF⟩
end Jvm.Pilot.@@N@@
namespace Jvm.Pilot.@@N@@
open Jvm Jvm.ClassFile Sem Op Lib Jvm.Free Jvm.Stand Jvm.Pilot.@@N@@.Jvm.D
/-! MADE BY PROGRAM (witnessworld.py) out of the Statement's table words and the real class files: 11 classes; the members and pool entries that the words name. The judged class is class 1, her method 1. -/
namespace start1
open Jvm.ClassFile
def u (s : String) : CpInfo := .utf8 (stringToUtf16 s)
/-- a pool by its gaps: so many unusable entries, then the entry; so many at the end -/
def gap : Nat → List CpInfo → List CpInfo
  | 0, r => r
  | n + 1, r => .unusable :: gap n r
def poolList (es : List (Nat × CpInfo)) (last : Nat) : List CpInfo := es.foldr (fun e r => gap e.1 (e.2 :: r)) (gap last [])
def pool (es : List (Nat × CpInfo)) (last : Nat) : Array CpInfo := ⟨poolList es last⟩
def fileOf (pool : Array CpInfo) (this : Nat) (attrs : Array Attribute := #[]) (ms : Array MethodInfo := #[]) (fl : Nat := 33) (sup : Nat := 0) (ifs : Array Nat := #[]) (fds : Array FieldInfo := #[]) : ClassFile where
  minorVersion := 0
  majorVersion := 65
  constantPool := pool
  accessFlags := fl
  thisClass := this
  superClass := sup
  interfaces := ifs
  fields := fds
  methods := ms
  attributes := attrs
def plain (name : String) (sup : Option ClassId) : Class where
  name := name
  kind := .ordinary
  loader := none
  accessFlags := 33
  super := sup
  interfaces := #[]
  cf := none
  fields := #[]
  methods := #[]
  instanceTypes := #[]
  staticTypes := #[]
  resolved := #[]
  callSites := []
  init := .initialized
  statics := none
  mirror := none

def pool0 : Array CpInfo := pool [(5, u "<init>"), (0, u "()V"), (1, .class_ 10), (1, u "java/lang/Object")] 113

def k0c0 : Code := { maxStack := 0, maxLocals := 1, code := object_method_1_code, exceptionTable := #[], attributes := #[] }
def k0m0 : Method := { name := "<init>", desc := "()V", sig := { parameters := [], returnType := none }, accessFlags := 1, code := some k0c0 }
/-- java/lang/Object -/
def k0 : Class := { plain "java/lang/Object" none with
  accessFlags := 33
  interfaces := #[]
  cf := some (fileOf pool0 8 #[] #[{ accessFlags := 1, nameIndex := 5, descriptorIndex := 6, attributes := #[] }] 33 0 #[] #[])
  fields := #[]
  methods := #[k0m0]
  instanceTypes := #[]
  staticTypes := #[]
  resolved := Array.replicate 124 none
  statics := none }

def pool1 : Array CpInfo := pool [(2, .class_ 4), (1, u "java/lang/Object"), (0, u "<init>"), (0, u "()V"), (2, .long 9223372036854775807), (1, .methodref 12 13), (0, .class_ 14), (0, .nameAndType 15 16), (0, u "java/lang/Math"), (0, u "max"), (0, u "(JJ)J"), (0, .methodref 18 19), (0, .class_ 20), (0, .nameAndType 21 22), (0, u "com/example/tranca/tranca/LockBackend$Handoff"), (0, u "handedOff"), (0, u "(J)Lcom/example/tranca/tranca/LockBackend$Handoff;"), (0, .methodref 18 24), (0, .nameAndType 25 26), (0, u "fencingToken"), (0, u "()J"), (0, .methodref 18 28), (0, .nameAndType 29 30), (0, u "isHandedOff"), (0, u "()Z"), (0, .methodref 18 32), (0, .nameAndType 33 30), (0, u "wasHeld"), (0, .class_ 35), (0, u "com/example/tranca/tranca/HandoffHandedOffPinLaw"), (2, u "law"), (0, u "(JJ)Z")] 7

def k1m0 : Method := { name := "<init>", desc := "()V", sig := { parameters := [], returnType := none }, accessFlags := 2, code := none }
def k1c1 : Code := { maxStack := 6, maxLocals := 12, code := code, exceptionTable := #[], attributes := #[] }
def k1m1 : Method := { name := "law", desc := "(JJ)Z", sig := { parameters := [.long, .long], returnType := some .boolean }, accessFlags := 9, code := some k1c1 }
/-- com/example/tranca/tranca/HandoffHandedOffPinLaw -/
def k1 : Class := { plain "com/example/tranca/tranca/HandoffHandedOffPinLaw" (some 0) with
  accessFlags := 49
  interfaces := #[]
  cf := some (fileOf pool1 34 #[] #[{ accessFlags := 2, nameIndex := 5, descriptorIndex := 6, attributes := #[] }, { accessFlags := 9, nameIndex := 38, descriptorIndex := 39, attributes := #[] }] 49 2 #[] #[])
  fields := #[]
  methods := #[k1m0, k1m1]
  instanceTypes := #[]
  staticTypes := #[]
  resolved := Array.replicate 47 none
  statics := none }

def pool2 : Array CpInfo := pool [(1, .class_ 2), (0, u "java/lang/Math"), (1, .class_ 6), (1, u "java/lang/Object"), (0, u "<init>"), (0, u "()V"), (89, .class_ 100), (1, u "java/lang/Math$RandomNumberGeneratorHolder"), (20, u "(JJ)J"), (50, u "negativeZeroFloatBits"), (0, u "J"), (2, u "negativeZeroDoubleBits"), (21, u "max"), (46, u "$assertionsDisabled"), (0, u "Z"), (91, u "twoToTheDoubleScaleDown"), (0, u "D"), (4, u "twoToTheDoubleScaleUp"), (9, u "E"), (3, u "PI"), (2, u "TAU"), (2, u "DEGREES_TO_RADIANS"), (0, u "RADIANS_TO_DEGREES")] 94

def k2m0 : Method := { name := "<init>", desc := "()V", sig := { parameters := [], returnType := none }, accessFlags := 2, code := none }
def k2c1 : Code := { maxStack := 4, maxLocals := 4, code := jdk_29_method_66_code, exceptionTable := #[], attributes := #[] }
def k2m1 : Method := { name := "max", desc := "(JJ)J", sig := { parameters := [.long, .long], returnType := some .long }, accessFlags := 9, code := some k2c1 }
/-- java/lang/Math -/
def k2 : Class := { plain "java/lang/Math" (some 0) with
  accessFlags := 49
  interfaces := #[]
  cf := some (fileOf pool2 1 #[.nestMembers #[98]] #[{ accessFlags := 2, nameIndex := 7, descriptorIndex := 8, attributes := #[] }, { accessFlags := 9, nameIndex := 198, descriptorIndex := 121, attributes := #[] }] 49 4 #[] #[{ accessFlags := 25, nameIndex := 354, descriptorIndex := 339, attributes := #[] }, { accessFlags := 25, nameIndex := 358, descriptorIndex := 339, attributes := #[] }, { accessFlags := 25, nameIndex := 361, descriptorIndex := 339, attributes := #[] }, { accessFlags := 26, nameIndex := 364, descriptorIndex := 339, attributes := #[] }, { accessFlags := 26, nameIndex := 365, descriptorIndex := 339, attributes := #[] }, { accessFlags := 26, nameIndex := 172, descriptorIndex := 173, attributes := #[] }, { accessFlags := 26, nameIndex := 176, descriptorIndex := 173, attributes := #[] }, { accessFlags := 8, nameIndex := 344, descriptorIndex := 339, attributes := #[] }, { accessFlags := 8, nameIndex := 338, descriptorIndex := 339, attributes := #[] }, { accessFlags := 4120, nameIndex := 245, descriptorIndex := 246, attributes := #[] }])
  fields := #[{ name := "E", type := .double, accessFlags := 25, slot := 0, constantValue := 0 }, { name := "PI", type := .double, accessFlags := 25, slot := 1, constantValue := 0 }, { name := "TAU", type := .double, accessFlags := 25, slot := 2, constantValue := 0 }, { name := "DEGREES_TO_RADIANS", type := .double, accessFlags := 26, slot := 3, constantValue := 0 }, { name := "RADIANS_TO_DEGREES", type := .double, accessFlags := 26, slot := 4, constantValue := 0 }, { name := "negativeZeroFloatBits", type := .long, accessFlags := 26, slot := 5, constantValue := 0 }, { name := "negativeZeroDoubleBits", type := .long, accessFlags := 26, slot := 6, constantValue := 0 }, { name := "twoToTheDoubleScaleUp", type := .double, accessFlags := 8, slot := 7, constantValue := 0 }, { name := "twoToTheDoubleScaleDown", type := .double, accessFlags := 8, slot := 8, constantValue := 0 }, { name := "$assertionsDisabled", type := .boolean, accessFlags := 4120, slot := 9, constantValue := 0 }]
  methods := #[k2m0, k2m1]
  instanceTypes := #[]
  staticTypes := #[.double, .double, .double, .double, .double, .long, .long, .double, .double, .boolean]
  resolved := Array.replicate 460 none
  statics := none }

def pool3 : Array CpInfo := pool [(1, .methodref 2 3), (0, .class_ 4), (0, .nameAndType 5 6), (0, u "java/lang/Object"), (0, u "<init>"), (0, u "()V"), (0, .fieldref 8 9), (0, .class_ 10), (0, .nameAndType 11 12), (0, u "com/example/tranca/tranca/LockBackend$Handoff"), (0, u "fencingToken"), (0, u "J"), (0, .fieldref 8 14), (0, .nameAndType 15 16), (0, u "wasHeld"), (0, u "Z"), (0, .methodref 18 19), (0, .class_ 20), (0, .nameAndType 21 22), (0, u "com/example/tranca/tranca/FencingTokens"), (0, u "requireValid"), (0, u "(J)J"), (0, .methodref 8 24), (0, .nameAndType 5 25), (0, u "(JZ)V"), (2, u "RELEASED"), (0, u "Lcom/example/tranca/tranca/LockBackend$Handoff;"), (2, u "NOT_HELD"), (2, u "handedOff"), (0, u "(J)Lcom/example/tranca/tranca/LockBackend$Handoff;"), (3, u "isHandedOff"), (0, u "()Z"), (1, u "()J"), (4, .class_ 49), (0, u "com/example/tranca/tranca/LockBackend")] 2

def k3c0 : Code := { maxStack := 3, maxLocals := 4, code := prog_7_method_1_code, exceptionTable := #[], attributes := #[] }
def k3m0 : Method := { name := "<init>", desc := "(JZ)V", sig := { parameters := [.long, .boolean], returnType := none }, accessFlags := 2, code := some k3c0 }
def k3c1 : Code := { maxStack := 5, maxLocals := 2, code := prog_7_method_2_code, exceptionTable := #[], attributes := #[] }
def k3m1 : Method := { name := "handedOff", desc := "(J)Lcom/example/tranca/tranca/LockBackend$Handoff;", sig := { parameters := [.long], returnType := some (.object "com/example/tranca/tranca/LockBackend$Handoff") }, accessFlags := 9, code := some k3c1 }
def k3c2 : Code := { maxStack := 4, maxLocals := 1, code := prog_7_method_5_code, exceptionTable := #[], attributes := #[] }
def k3m2 : Method := { name := "isHandedOff", desc := "()Z", sig := { parameters := [], returnType := some .boolean }, accessFlags := 1, code := some k3c2 }
def k3c3 : Code := { maxStack := 2, maxLocals := 1, code := prog_7_method_6_code, exceptionTable := #[], attributes := #[] }
def k3m3 : Method := { name := "fencingToken", desc := "()J", sig := { parameters := [], returnType := some .long }, accessFlags := 1, code := some k3c3 }
def k3c4 : Code := { maxStack := 1, maxLocals := 1, code := prog_7_method_7_code, exceptionTable := #[], attributes := #[] }
def k3m4 : Method := { name := "wasHeld", desc := "()Z", sig := { parameters := [], returnType := some .boolean }, accessFlags := 1, code := some k3c4 }
/-- com/example/tranca/tranca/LockBackend$Handoff -/
def k3 : Class := { plain "com/example/tranca/tranca/LockBackend$Handoff" (some 0) with
  accessFlags := 49
  interfaces := #[]
  cf := some (fileOf pool3 8 #[.nestHost 48] #[{ accessFlags := 2, nameIndex := 5, descriptorIndex := 25, attributes := #[] }, { accessFlags := 9, nameIndex := 35, descriptorIndex := 36, attributes := #[] }, { accessFlags := 1, nameIndex := 40, descriptorIndex := 41, attributes := #[] }, { accessFlags := 1, nameIndex := 11, descriptorIndex := 43, attributes := #[] }, { accessFlags := 1, nameIndex := 15, descriptorIndex := 41, attributes := #[] }] 49 2 #[] #[{ accessFlags := 26, nameIndex := 28, descriptorIndex := 29, attributes := #[] }, { accessFlags := 26, nameIndex := 32, descriptorIndex := 29, attributes := #[] }, { accessFlags := 18, nameIndex := 11, descriptorIndex := 12, attributes := #[] }, { accessFlags := 18, nameIndex := 15, descriptorIndex := 16, attributes := #[] }])
  fields := #[{ name := "RELEASED", type := (.object "com/example/tranca/tranca/LockBackend$Handoff"), accessFlags := 26, slot := 0, constantValue := 0 }, { name := "NOT_HELD", type := (.object "com/example/tranca/tranca/LockBackend$Handoff"), accessFlags := 26, slot := 1, constantValue := 0 }, { name := "fencingToken", type := .long, accessFlags := 18, slot := 0, constantValue := 0 }, { name := "wasHeld", type := .boolean, accessFlags := 18, slot := 1, constantValue := 0 }]
  methods := #[k3m0, k3m1, k3m2, k3m3, k3m4]
  instanceTypes := #[.long, .boolean]
  staticTypes := #[(.object "com/example/tranca/tranca/LockBackend$Handoff"), (.object "com/example/tranca/tranca/LockBackend$Handoff")]
  resolved := Array.replicate 52 none
  statics := none }

def pool4 : Array CpInfo := pool [(2, .class_ 4), (1, u "java/lang/Object"), (0, u "<init>"), (0, u "()V"), (9, .class_ 17), (0, u "com/example/tranca/tranca/FencingTokens"), (2, u "requireValid"), (0, u "(J)J")] 18

def k4m0 : Method := { name := "<init>", desc := "()V", sig := { parameters := [], returnType := none }, accessFlags := 2, code := none }
def k4c1 : Code := { maxStack := 4, maxLocals := 2, code := prog_2_method_2_code, exceptionTable := #[], attributes := #[] }
def k4m1 : Method := { name := "requireValid", desc := "(J)J", sig := { parameters := [.long], returnType := some .long }, accessFlags := 9, code := some k4c1 }
/-- com/example/tranca/tranca/FencingTokens -/
def k4 : Class := { plain "com/example/tranca/tranca/FencingTokens" (some 0) with
  accessFlags := 49
  interfaces := #[]
  cf := some (fileOf pool4 16 #[] #[{ accessFlags := 2, nameIndex := 5, descriptorIndex := 6, attributes := #[] }, { accessFlags := 9, nameIndex := 20, descriptorIndex := 21, attributes := #[] }] 49 2 #[] #[])
  fields := #[]
  methods := #[k4m0, k4m1]
  instanceTypes := #[]
  staticTypes := #[]
  resolved := Array.replicate 40 none
  statics := none }

def pool5 : Array CpInfo := pool [(1, u "java/lang/Cloneable"), (0, .class_ 1), (0, u "java/lang/Object"), (0, .class_ 3)] 3

/-- java/lang/Cloneable -/
def k5 : Class := { plain "java/lang/Cloneable" (some 0) with
  accessFlags := 1537
  interfaces := #[]
  cf := some (fileOf pool5 2 #[] #[] 1537 4 #[] #[])
  fields := #[]
  methods := #[]
  instanceTypes := #[]
  staticTypes := #[]
  resolved := Array.replicate 8 none
  statics := none }

def pool6 : Array CpInfo := pool [(1, u "java/io/Serializable"), (0, .class_ 1), (0, u "java/lang/Object"), (0, .class_ 3)] 3

/-- java/io/Serializable -/
def k6 : Class := { plain "java/io/Serializable" (some 0) with
  accessFlags := 1537
  interfaces := #[]
  cf := some (fileOf pool6 2 #[] #[] 1537 4 #[] #[])
  fields := #[]
  methods := #[]
  instanceTypes := #[]
  staticTypes := #[]
  resolved := Array.replicate 8 none
  statics := none }

/-- the primitive byte -/
def k7 : Class := { plain "byte" none with kind := .primitive 'B', accessFlags := 0x411 }
/-- [B -/
def k8 : Class := { plain "[B" (some 0) with kind := .array 7 .byte, interfaces := #[5, 6], accessFlags := 1041 }

/-- the primitive int -/
def k9 : Class := { plain "int" none with kind := .primitive 'I', accessFlags := 0x411 }
/-- [I -/
def k10 : Class := { plain "[I" (some 0) with kind := .array 9 .int, interfaces := #[5, 6], accessFlags := 1041 }

def heap : Heap := #[]
def classes : Array Class := #[k0, k1, k2, k3, k4, k5, k6, k7, k8, k9, k10]
def interned : List (Array UInt16 × Addr) := []
def slotsUsed : Nat := 0
def theMethod : MethodId := ⟨1, 1⟩
def args0 : Array Value := #[.long 5, .long 6]
def aboutOver (below : List Frame) : State where
  vm := { classes := classes, interned := interned.toArray }
  heap := heap
  slotsUsed := slotsUsed
  threads := #[{ frames := .invoking theMethod args0 :: below }]
def below0 : List Frame := [.native { method := ⟨0, 0⟩, args := #[] }]
def about1 : State := aboutOver below0
def p0 : Program := .bare "" "" ""
def e0 : Env := launch0.env 0 0 0
theorem w_frames : about1.frames = Frame.invoking theMethod args0 :: below0 := rfl
set_option maxRecDepth 65536 in
theorem w_args : argsFit about1.vm theMethod args0 = true := by decide +kernel
set_option maxRecDepth 65536 in
theorem w_heap : heapFits about1 = true := by decide +kernel
set_option maxRecDepth 65536 in
theorem w_runnable : about1.curStatus? = some .runnable := by decide +kernel
set_option maxRecDepth 65536 in
theorem w_alone : about1.alone = true := by decide +kernel
set_option maxRecDepth 65536 in
theorem w_named : about1.methodNamed? x = some theMethod := by decide +kernel
set_option maxRecDepth 65536 in
theorem w_hears : about1.hears theMethod below0 = true := by decide +kernel
set_option maxRecDepth 65536 in
theorem w_ripe : about1.ripe theMethod args0 below0 = true := by decide +kernel
theorem w_running : about1.status = .running := rfl
set_option maxRecDepth 65536 in
theorem w_room : about1.hasRoom e0.platform room_1 = true :=
  launch0.hasRoom_least _ room_1 (by decide +kernel) (by decide +kernel) (by decide +kernel) (by decide +kernel) (by decide +kernel) (by decide +kernel)
theorem allAtoms_all (ts : List Jvm.Cond) (a : Array Jvm.Value) (st : Jvm.State) : (allAtoms ts).before a st = ts.all (fun c => c.before a st) := by
  induction ts with
  | nil => rfl
  | cons c t ih =>
    show (Jvm.Cond.and c (allAtoms t)).before a st = _
    rw [Jvm.Cond.before_and, ih, List.all_cons]
def words1 : List Jvm.Cond := Jvm.Cond.code x code maxLocals ret :: tables_1
/-- a 'code' word, met by the world's own term for the bytes: nothing is compared byte by byte -/
theorem code_word {y : MethodName} {bytes : ByteArray} {mx : Nat} {rt : Option FieldType} {a : Array Value} {s : State} {m : MethodId} {meth : Method} {c : Code} (h1 : s.methodNamed? y = some m) (h2 : s.vm.method? m = some meth) (h3 : meth.code = some c) (h4 : c.code = bytes)
    (h5 : (c.maxLocals == mx && c.exceptionTable.isEmpty && decide (c.maxStack ≤ mostOperands) && decide (meth.sig.returnType = rt) && !meth.locks && decide (parseMethodDescriptor y.desc = some meth.sig)) = true) : (Jvm.Cond.code y bytes mx rt).before a s = true := by
  simp only [Bool.and_eq_true, beq_iff_eq, Bool.not_eq_true', decide_eq_true_eq] at h5
  obtain ⟨⟨⟨⟨⟨g1, g2⟩, g3⟩, g4⟩, g5⟩, g6⟩ := h5
  simp [Cond.before, Cond.holds, Cond.value, h1, h2, h3, h4, g1, g2, g3, g4, g5, g6]
def isCode : Jvm.Cond → Bool
  | .code _ _ _ _ => true
  | _ => false
theorem all_split {L : List Jvm.Cond} {P : Jvm.Cond → Bool} (h1 : L.all (fun c => isCode c || P c) = true) (h2 : ∀ c ∈ L.filter isCode, P c = true) : L.all P = true := by
  refine List.all_eq_true.mpr fun c hc => ?_
  have h := List.all_eq_true.mp h1 c hc
  rcases Bool.eq_false_or_eq_true (isCode c) with hi | hi
  · exact h2 c (List.mem_filter.mpr ⟨hc, hi⟩)
  · simpa [hi] using h
set_option maxRecDepth 65536 in
theorem w_c0 : (Jvm.Cond.code x code maxLocals ret).before args0 about1 = true := code_word (m := ⟨1, 1⟩) (meth := k1m1) (c := k1c1) (by decide +kernel) rfl rfl rfl (by decide +kernel)
set_option maxRecDepth 65536 in
theorem w_c1 : (Jvm.Cond.code ({ cls := "java/lang/Math", name := "max", desc := "(JJ)J" } : Jvm.MethodName) jdk_29_method_66_code (4 : Nat) (Option.some Jvm.ClassFile.FieldType.long)).before args0 about1 = true := code_word (m := ⟨2, 1⟩) (meth := k2m1) (c := k2c1) (by decide +kernel) rfl rfl rfl (by decide +kernel)
set_option maxRecDepth 65536 in
theorem w_c2 : (Jvm.Cond.code ({ cls := "com/example/tranca/tranca/LockBackend$Handoff", name := "handedOff", desc := "(J)Lcom/example/tranca/tranca/LockBackend$Handoff;" } : Jvm.MethodName) prog_7_method_2_code (2 : Nat) (Option.some (Jvm.ClassFile.FieldType.object "com/example/tranca/tranca/LockBackend$Handoff"))).before args0 about1 = true := code_word (m := ⟨3, 1⟩) (meth := k3m1) (c := k3c1) (by decide +kernel) rfl rfl rfl (by decide +kernel)
set_option maxRecDepth 65536 in
theorem w_c3 : (Jvm.Cond.code ({ cls := "com/example/tranca/tranca/FencingTokens", name := "requireValid", desc := "(J)J" } : Jvm.MethodName) prog_2_method_2_code (2 : Nat) (Option.some Jvm.ClassFile.FieldType.long)).before args0 about1 = true := code_word (m := ⟨4, 1⟩) (meth := k4m1) (c := k4c1) (by decide +kernel) rfl rfl rfl (by decide +kernel)
set_option maxRecDepth 65536 in
theorem w_c4 : (Jvm.Cond.code ({ cls := "com/example/tranca/tranca/LockBackend$Handoff", name := "<init>", desc := "(JZ)V" } : Jvm.MethodName) prog_7_method_1_code (4 : Nat) (Option.none : Option Jvm.ClassFile.FieldType)).before args0 about1 = true := code_word (m := ⟨3, 0⟩) (meth := k3m0) (c := k3c0) (by decide +kernel) rfl rfl rfl (by decide +kernel)
set_option maxRecDepth 65536 in
theorem w_c5 : (Jvm.Cond.code ({ cls := "java/lang/Object", name := "<init>", desc := "()V" } : Jvm.MethodName) object_method_1_code (1 : Nat) (Option.none : Option Jvm.ClassFile.FieldType)).before args0 about1 = true := code_word (m := ⟨0, 0⟩) (meth := k0m0) (c := k0c0) (by decide +kernel) rfl rfl rfl (by decide +kernel)
set_option maxRecDepth 65536 in
theorem w_c6 : (Jvm.Cond.code ({ cls := "com/example/tranca/tranca/LockBackend$Handoff", name := "fencingToken", desc := "()J" } : Jvm.MethodName) prog_7_method_6_code (1 : Nat) (Option.some Jvm.ClassFile.FieldType.long)).before args0 about1 = true := code_word (m := ⟨3, 3⟩) (meth := k3m3) (c := k3c3) (by decide +kernel) rfl rfl rfl (by decide +kernel)
set_option maxRecDepth 65536 in
theorem w_c7 : (Jvm.Cond.code ({ cls := "com/example/tranca/tranca/LockBackend$Handoff", name := "isHandedOff", desc := "()Z" } : Jvm.MethodName) prog_7_method_5_code (1 : Nat) (Option.some Jvm.ClassFile.FieldType.boolean)).before args0 about1 = true := code_word (m := ⟨3, 2⟩) (meth := k3m2) (c := k3c2) (by decide +kernel) rfl rfl rfl (by decide +kernel)
set_option maxRecDepth 65536 in
theorem w_c8 : (Jvm.Cond.code ({ cls := "com/example/tranca/tranca/LockBackend$Handoff", name := "wasHeld", desc := "()Z" } : Jvm.MethodName) prog_7_method_7_code (1 : Nat) (Option.some Jvm.ClassFile.FieldType.boolean)).before args0 about1 = true := code_word (m := ⟨3, 4⟩) (meth := k3m4) (c := k3c4) (by decide +kernel) rfl rfl rfl (by decide +kernel)
def codes1 : List Jvm.Cond := [Jvm.Cond.code x code maxLocals ret, Jvm.Cond.code ({ cls := "java/lang/Math", name := "max", desc := "(JJ)J" } : Jvm.MethodName) jdk_29_method_66_code (4 : Nat) (Option.some Jvm.ClassFile.FieldType.long), Jvm.Cond.code ({ cls := "com/example/tranca/tranca/LockBackend$Handoff", name := "handedOff", desc := "(J)Lcom/example/tranca/tranca/LockBackend$Handoff;" } : Jvm.MethodName) prog_7_method_2_code (2 : Nat) (Option.some (Jvm.ClassFile.FieldType.object "com/example/tranca/tranca/LockBackend$Handoff")), Jvm.Cond.code ({ cls := "com/example/tranca/tranca/FencingTokens", name := "requireValid", desc := "(J)J" } : Jvm.MethodName) prog_2_method_2_code (2 : Nat) (Option.some Jvm.ClassFile.FieldType.long), Jvm.Cond.code ({ cls := "com/example/tranca/tranca/LockBackend$Handoff", name := "<init>", desc := "(JZ)V" } : Jvm.MethodName) prog_7_method_1_code (4 : Nat) (Option.none : Option Jvm.ClassFile.FieldType), Jvm.Cond.code ({ cls := "java/lang/Object", name := "<init>", desc := "()V" } : Jvm.MethodName) object_method_1_code (1 : Nat) (Option.none : Option Jvm.ClassFile.FieldType), Jvm.Cond.code ({ cls := "com/example/tranca/tranca/LockBackend$Handoff", name := "fencingToken", desc := "()J" } : Jvm.MethodName) prog_7_method_6_code (1 : Nat) (Option.some Jvm.ClassFile.FieldType.long), Jvm.Cond.code ({ cls := "com/example/tranca/tranca/LockBackend$Handoff", name := "isHandedOff", desc := "()Z" } : Jvm.MethodName) prog_7_method_5_code (1 : Nat) (Option.some Jvm.ClassFile.FieldType.boolean), Jvm.Cond.code ({ cls := "com/example/tranca/tranca/LockBackend$Handoff", name := "wasHeld", desc := "()Z" } : Jvm.MethodName) prog_7_method_7_code (1 : Nat) (Option.some Jvm.ClassFile.FieldType.boolean)]
set_option maxRecDepth 65536 in
theorem codes_eq : words1.filter isCode = codes1 := rfl
theorem w_codes : ∀ c ∈ words1.filter isCode, c.before args0 about1 = true := by
  rw [codes_eq]
  intro c hc
  simp only [codes1, List.mem_cons, List.not_mem_nil, or_false] at hc
  rcases hc with rfl | rfl | rfl | rfl | rfl | rfl | rfl | rfl | rfl
  · exact w_c0
  · exact w_c1
  · exact w_c2
  · exact w_c3
  · exact w_c4
  · exact w_c5
  · exact w_c6
  · exact w_c7
  · exact w_c8
set_option maxRecDepth 65536 in
theorem w_t1 : (words1.take 24).all (fun c => isCode c || c.before args0 about1) = true := by decide +kernel
set_option maxRecDepth 65536 in
theorem w_t2 : (words1.drop 24).all (fun c => isCode c || c.before args0 about1) = true := by decide +kernel
theorem w_tables : (allAtoms (Jvm.Cond.code x code maxLocals ret :: tables_1)).before args0 about1 = true := by
  rw [allAtoms_all]
  show words1.all (fun c => c.before args0 about1) = true
  refine all_split ?_ w_codes
  rw [← List.take_append_drop 24 words1, List.all_append, w_t1, w_t2]
  rfl
set_option maxRecDepth 65536 in
theorem w_case : (Jvm.Cond.and given_1 narrow_1).before args0 about1 = true := by decide +kernel
theorem w_applies : (headSpec (Jvm.Cond.code x code maxLocals ret :: tables_1) room_1).applies x e0.platform about1 = true :=
  (Spec.applies_iff w_frames).mpr ⟨w_running, w_runnable, w_alone, w_named, w_hears, w_ripe, w_room, w_tables⟩
theorem atStart : AtStart classFile x code maxLocals ret World_1 tables_1 room_1 Calls_1 rest_1 Pre_1 launch0 p0 e0 about1 theMethod args0 below0 :=
  ⟨lists_1, trivial, launch0.admits_env _ _ _, launch0.least_env, fairChoices_fair.cas, fairChoices_fair.clock, w_frames, w_args, w_heap, w_applies, trivial, trivial, w_case⟩
end start1
theorem witness_1 : WitnessClaimed_1 := ⟨start1.p0, start1.e0, start1.about1, start1.theMethod, start1.args0, start1.below0, start1.atStart⟩
end Jvm.Pilot.@@N@@
