import JvmDerived
import JvmDerived.Pilot.@@N@@Statement
import JvmDerived.Pilot.@@N@@Code
set_option linter.unusedVariables false
set_option linter.unusedSimpArgs false
namespace Jvm.OwnKit
open Sem ClassFile Op Lib Jvm.Stand Jvm.Free Jvm.LawKit Jvm.RoadKit
/-- from the frame g over T the run ends, and what it leaves is Q's -/
def Go (p : Program) (e : Env) (below : List Frame) (s : State) (Q : Option Value → Heap → List Loc → Prop) (C S : Nat) (T : State) (g : JFrame) : Prop :=
  ∃ s₂ o, Steps p.tables e below (T.setTop g) s₂ ∧ s₂.status = .running ∧ Ended s₂ below o ∧ ∃ v L, o = .returned v ∧ Q v s₂.heap L ∧ FrameEnd s o s₂ L C S
section OwnGo
variable {p : Program} {l : Launch} {e : Env} {R : Room} {s : State} {m : MethodId} {args : Array Value} {below : List Frame} {meth : Method} {c : Code} {T T' : State} {locs : List Loc} {cells slots : Nat} {Q : Option Value → Heap → List Loc → Prop} {C S : Nat} {g g' : JFrame}
theorem Go.st (h : ∀ t, Steps p.tables e below (T'.setTop g') t → Steps p.tables e below (T.setTop g) t) (k : Go p e below s Q C S T' g') : Go p e below s Q C S T g := by
  obtain ⟨s₂, o, h1, h2⟩ := k
  exact ⟨s₂, o, h _ h1, h2⟩
theorem Go.eq (q : g = g') (k : Go p e below s Q C S T g') : Go p e below s Q C S T g := q ▸ k
theorem Go.retV (X : Stand p l e R s m args below meth c T locs cells slots) (hx : p.tables.exec = Jvm.exec) (hlk : meth.locks = false) {pc : Nat} {Ls : Array Slot} {w : Value} {t : FieldType} {i : Instr} {rest : List Value} (hret : meth.sig.returnType = some t) (hn : narrow t w = w)
    (hi : (i = .ireturn ∧ (t = .int ∨ t = .boolean ∨ t = .byte ∨ t = .char ∨ t = .short) ∧ ∃ z, w = .int z) ∨ (i = .lreturn ∧ t = .long ∧ ∃ z, w = .long z) ∨ (i = .dreturn ∧ t = .double ∧ ∃ z, w = .double z) ∨ (i = .freturn ∧ t = .float ∧ ∃ z, w = .float z) ∨ (i = .areturn ∧ t.isReference = true ∧ w.isRef = true))
    (hd : decode c.code pc = .ok (i, 1)) (hQ : Q (some w) T.heap locs) (hc : cells ≤ C) (hs : slots ≤ S) : Go p e below s Q C S T (mkF m pc Ls (w :: rest)) := by
  obtain ⟨fs, hr, hrun, hended, hW, hsame⟩ := X.leave (v := some w) (fun h => by rw [hret] at h; cases h) hlk
  exact ⟨_, _, retOut X hx hret hn hi hd hr, hrun, hended, _, _, rfl, hQ, ⟨_, rfl⟩, hW, hsame.mono hc hs⟩
theorem Go.retI (X : Stand p l e R s m args below meth c T locs cells slots) (hx : p.tables.exec = Jvm.exec) (hlk : meth.locks = false) {pc : Nat} {Ls : Array Slot} {z : Int32} {rest : List Value} (hret : meth.sig.returnType = some .int) (hd : decode c.code pc = .ok (.ireturn, 1)) (hQ : Q (some (.int z)) T.heap locs) (hc : cells ≤ C) (hs : slots ≤ S) : Go p e below s Q C S T (mkF m pc Ls (.int z :: rest)) :=
  Go.retV X hx hlk hret rfl (Or.inl ⟨rfl, Or.inl rfl, _, rfl⟩) hd hQ hc hs
theorem Go.retZ (X : Stand p l e R s m args below meth c T locs cells slots) (hx : p.tables.exec = Jvm.exec) (hlk : meth.locks = false) {pc : Nat} {Ls : Array Slot} {z : Int32} {rest : List Value} (hret : meth.sig.returnType = some .boolean) (hd : decode c.code pc = .ok (.ireturn, 1)) (hn : narrow .boolean (.int z) = .int z) (hQ : Q (some (.int z)) T.heap locs) (hc : cells ≤ C) (hs : slots ≤ S) : Go p e below s Q C S T (mkF m pc Ls (.int z :: rest)) :=
  Go.retV X hx hlk hret hn (Or.inl ⟨rfl, Or.inr (Or.inl rfl), _, rfl⟩) hd hQ hc hs
theorem Go.retB (X : Stand p l e R s m args below meth c T locs cells slots) (hx : p.tables.exec = Jvm.exec) (hlk : meth.locks = false) {pc : Nat} {Ls : Array Slot} {z : Int32} {rest : List Value} (hret : meth.sig.returnType = some .byte) (hd : decode c.code pc = .ok (.ireturn, 1)) (hn : narrow .byte (.int z) = .int z) (hQ : Q (some (.int z)) T.heap locs) (hc : cells ≤ C) (hs : slots ≤ S) : Go p e below s Q C S T (mkF m pc Ls (.int z :: rest)) :=
  Go.retV X hx hlk hret hn (Or.inl ⟨rfl, Or.inr (Or.inr (Or.inl rfl)), _, rfl⟩) hd hQ hc hs
theorem Go.retC (X : Stand p l e R s m args below meth c T locs cells slots) (hx : p.tables.exec = Jvm.exec) (hlk : meth.locks = false) {pc : Nat} {Ls : Array Slot} {z : Int32} {rest : List Value} (hret : meth.sig.returnType = some .char) (hd : decode c.code pc = .ok (.ireturn, 1)) (hn : narrow .char (.int z) = .int z) (hQ : Q (some (.int z)) T.heap locs) (hc : cells ≤ C) (hs : slots ≤ S) : Go p e below s Q C S T (mkF m pc Ls (.int z :: rest)) :=
  Go.retV X hx hlk hret hn (Or.inl ⟨rfl, Or.inr (Or.inr (Or.inr (Or.inl rfl))), _, rfl⟩) hd hQ hc hs
theorem Go.retJ (X : Stand p l e R s m args below meth c T locs cells slots) (hx : p.tables.exec = Jvm.exec) (hlk : meth.locks = false) {pc : Nat} {Ls : Array Slot} {z : Int64} {rest : List Value} (hret : meth.sig.returnType = some .long) (hd : decode c.code pc = .ok (.lreturn, 1)) (hQ : Q (some (.long z)) T.heap locs) (hc : cells ≤ C) (hs : slots ≤ S) : Go p e below s Q C S T (mkF m pc Ls (.long z :: rest)) :=
  Go.retV X hx hlk hret rfl (Or.inr (Or.inl ⟨rfl, rfl, _, rfl⟩)) hd hQ hc hs
theorem own_nar_ref {t : FieldType} {w : Value} (hw : w.isRef = true) : narrow t w = w := by
  rcases ref_cases hw with rfl | ⟨_, rfl⟩ <;> cases t <;> rfl
theorem Go.retA (X : Stand p l e R s m args below meth c T locs cells slots) (hx : p.tables.exec = Jvm.exec) (hlk : meth.locks = false) {pc : Nat} {Ls : Array Slot} {w : Value} {t : FieldType} {rest : List Value} (hret : meth.sig.returnType = some t) (ht : t.isReference = true) (hw : w.isRef = true) (hd : decode c.code pc = .ok (.areturn, 1)) (hQ : Q (some w) T.heap locs) (hc : cells ≤ C) (hs : slots ≤ S) : Go p e below s Q C S T (mkF m pc Ls (w :: rest)) :=
  Go.retV X hx hlk hret (own_nar_ref hw) (Or.inr (Or.inr (Or.inr (Or.inr ⟨rfl, ht, hw⟩)))) hd hQ hc hs
theorem Go.ret0 (X : Stand p l e R s m args below meth c T locs cells slots) (hx : p.tables.exec = Jvm.exec) (hlk : meth.locks = false) {pc : Nat} {Ls : Array Slot} (hret : meth.sig.returnType = none) (hd : decode c.code pc = .ok (.return_, 1)) (hQ : Q none T.heap locs) (hc : cells ≤ C) (hs : slots ≤ S) : Go p e below s Q C S T (mkF m pc Ls []) := by
  obtain ⟨fs, hr, hrun, hended, hW, hsame⟩ := X.leave (v := none) (fun _ => rfl) hlk
  exact ⟨_, _, X.returnOut hx hret hd hr, hrun, hended, _, _, rfl, hQ, ⟨_, rfl⟩, hW, hsame.mono hc hs⟩
end OwnGo
/-- a proposition as Java's boolean -/
def b2i (P : Prop) [Decidable P] : Int32 := if P then 1 else 0
theorem b2i_pos {P : Prop} [Decidable P] (h : P) : b2i P = 1 := if_pos h
theorem b2i_neg {P : Prop} [Decidable P] (h : ¬ P) : b2i P = 0 := if_neg h
theorem b2i_ne {P : Prop} [Decidable P] (h : P) : ¬ b2i P = 0 := by rw [b2i_pos h]; decide
theorem b2i_zero {P : Prop} [Decidable P] (h : ¬ P) : b2i P = 0 := b2i_neg h
theorem own_b2i_t {P : Prop} [Decidable P] (h : P) : some (Value.int 1) = some (Value.int (b2i P)) := by rw [b2i_pos h]
theorem own_b2i_f {P : Prop} [Decidable P] (h : ¬ P) : some (Value.int 0) = some (Value.int (b2i P)) := by rw [b2i_neg h]
theorem own_nb (y : Int32) : nar .byte (y.toInt8.toInt32) = y.toInt8.toInt32 := by
  show y.toInt8.toInt32.toInt8.toInt32 = y.toInt8.toInt32
  simp
theorem own_nc (y : Int32) : nar .char (y.toUInt32.toUInt16.toUInt32.toInt32) = y.toUInt32.toUInt16.toUInt32.toInt32 := by
  show (y.toUInt32.toUInt16.toUInt32.toInt32).toUInt32.toUInt16.toUInt32.toInt32 = y.toUInt32.toUInt16.toUInt32.toInt32
  rw [UInt32.toUInt32_toInt32, UInt16.toUInt16_toUInt32]
theorem own_nbv (y : Int32) : narrow .byte (.int (y.toInt8.toInt32)) = .int (y.toInt8.toInt32) := congrArg Value.int (own_nb y)
theorem own_and1 (a : Int32) : a &&& (1 : Int32) = (0 : Int32) ∨ a &&& (1 : Int32) = (1 : Int32) := and_one a
theorem own_and3 (a : Int32) : a &&& (3 : Int32) = (0 : Int32) ∨ a &&& (3 : Int32) = (1 : Int32) ∨ a &&& (3 : Int32) = (2 : Int32) ∨ a &&& (3 : Int32) = (3 : Int32) := by
  have e := c_mask a 3 2 (by decide) (by decide)
  have h : (a &&& (3 : Int32)).toInt = 0 ∨ (a &&& (3 : Int32)).toInt = 1 ∨ (a &&& (3 : Int32)).toInt = 2 ∨ (a &&& (3 : Int32)).toInt = 3 := by omega
  rcases h with h | h | h | h
  · exact Or.inl (Int32.toInt_inj.mp (h.trans (by decide)))
  · exact Or.inr (Or.inl (Int32.toInt_inj.mp (h.trans (by decide))))
  · exact Or.inr (Or.inr (Or.inl (Int32.toInt_inj.mp (h.trans (by decide)))))
  · exact Or.inr (Or.inr (Or.inr (Int32.toInt_inj.mp (h.trans (by decide)))))
theorem own_ord {s : State} {args : Array Value} {t : Term} {a : Addr} {C n d : String} {k : Int32} (ev : t.eval args s none [] s = some (.ref a)) (h : (Jvm.Cond.eq (Term.field t C n d) (Term.int k)).value args s none s [] = some true) : Fld s s.heap a C n d (.int k) := by
  obtain ⟨u, w, hu, hw, k1, k2⟩ := cmp_v (Or.inl h)
  have hw' : (Term.int k).eval args s none [] s = some (.int k) := Term.int_eval k
  cases hw.symm.trans hw'
  obtain ⟨z, rfl⟩ : ∃ z, u = .int z := k2
  have hz : z = k := gotT (Cond.eq_ints hu hw') h
  subst hz
  exact Fld.start ((fld_at ev).symm.trans hu)
section OwnBounds
variable {c a b : Int32} {n : Int}
theorem own_i1 (h : c < a) (q : a.toInt ≤ b.toInt) : c < b := by rw [Int32.lt_iff_toInt_lt] at *; omega
theorem own_i2 (h : ¬ a < c) (q : a.toInt < b.toInt) : c < b := by rw [Int32.lt_iff_toInt_lt] at *; omega
theorem own_i3 (h : ¬ c < a) (q : b.toInt ≤ a.toInt) : ¬ c < b := by rw [Int32.lt_iff_toInt_lt] at *; omega
theorem own_i4 (h : a < c) (q : b.toInt ≤ a.toInt + 1) : ¬ c < b := by rw [Int32.lt_iff_toInt_lt] at *; omega
theorem own_j1 (h : c < a) (q : a.toInt ≤ b.toInt + 1) : ¬ b < c := by rw [Int32.lt_iff_toInt_lt] at *; omega
theorem own_j2 (h : ¬ a < c) (q : a.toInt ≤ b.toInt) : ¬ b < c := by rw [Int32.lt_iff_toInt_lt] at *; omega
theorem own_j3 (h : ¬ c < a) (q : b.toInt < a.toInt) : b < c := by rw [Int32.lt_iff_toInt_lt] at *; omega
theorem own_j4 (h : a < c) (q : b.toInt ≤ a.toInt) : b < c := by rw [Int32.lt_iff_toInt_lt] at *; omega
theorem own_k1 (h : c < a) (q : a.toInt ≤ b.toInt) : ¬ c = b := fun e => by rw [e, Int32.lt_iff_toInt_lt] at h; omega
theorem own_k2 (h : ¬ a < c) (q : a.toInt < b.toInt) : ¬ c = b := fun e => by rw [e, Int32.lt_iff_toInt_lt] at h; omega
theorem own_k3 (h : ¬ c < a) (q : b.toInt < a.toInt) : ¬ c = b := fun e => by rw [e, Int32.lt_iff_toInt_lt] at h; omega
theorem own_k4 (h : a < c) (q : b.toInt ≤ a.toInt) : ¬ c = b := fun e => by rw [e, Int32.lt_iff_toInt_lt] at h; omega
theorem own_c1 (h : c < a) (q : a.toInt = n) : c.toInt < n := by rw [Int32.lt_iff_toInt_lt] at h; omega
theorem own_c2 (h : ¬ a < c) (q : a.toInt = n) : c.toInt ≤ n := by rw [Int32.lt_iff_toInt_lt] at h; omega
theorem own_c3 (h : ¬ c < a) (q : a.toInt = n) : n ≤ c.toInt := by rw [Int32.lt_iff_toInt_lt] at h; omega
theorem own_c4 (h : a < c) (q : a.toInt = n) : n < c.toInt := by rw [Int32.lt_iff_toInt_lt] at h; omega
theorem own_c5 (h : c = a) (q : a.toInt = n) : c.toInt = n := by rw [h]; exact q
theorem own_c6 (h : ¬ c = a) (q : a.toInt = n) : ¬ c.toInt = n := fun e => h (Int32.toInt_inj.mp (e.trans q.symm))
end OwnBounds
theorem own_addc {a b c d : Int32} (h : b + c = d) : (a + b) + c = a + d := by rw [Int32.add_assoc, h]
theorem own_byte_of {v : Value} (h : fits .byte v = true) : ∃ w, v = .int w ∧ narrow .byte (.int w) = .int w := by
  cases v with
  | int w =>
    refine ⟨w, rfl, ?_⟩
    obtain ⟨h1, h2⟩ := rng_byte h
    have e := c_i2b w
    have e1 : (-128 : Int32).toInt = -128 := by decide
    have e2 : (127 : Int32).toInt = 127 := by decide
    rw [Int32.lt_iff_toInt_lt, e1] at h1
    rw [Int32.lt_iff_toInt_lt, e2] at h2
    have e3 : w.toInt8.toInt32 = w := Int32.toInt_inj.mp (by omega)
    exact congrArg Value.int e3
  | _ => simp [fits] at h
theorem own_arv_nostat {Z : State} {h : Heap} {a : Addr} {k : ClassId} {ty : FieldType} {z : Int32} {vs : List Value} {dv : Value} (F : Arv Z h a k ty z vs dv) : ∀ cell : Cell, h[a]? = some cell → cell.vm.isStatics = false := by
  obtain ⟨c, A, -⟩ := F
  intro cell hc
  cases A.1.symm.trans hc
  exact A.plain
theorem own_selP {s : State} {args args' : Array Value} {y y' : MethodName} (hsel : (Jvm.Cond.selects y'.cls y' y').before args s = true) (he : y.cls = y'.cls) (hp : s.PrivateAt y) (hi : (Jvm.Cond.instanceMethod y).before args s = true) (hy : y.cls ≠ "java/lang/invoke/MethodHandle" ∧ y.cls ≠ "java/lang/invoke/VarHandle") : (Jvm.Cond.selects y.cls y y).before args s = true := by
  obtain ⟨c2, r2, m2, -, -, q3, -, kP, hkP, hkPi⟩ := Cond.selects_spec hsel
  exact Jvm.Stand.selects_self_of_private (by rw [he]; exact findClass_of_methodNamed q3) hkP hkPi hp hi hy
theorem own_irr {a : Int32} : ¬ (a < a) := Int32.lt_irrefl
theorem own_irrL {a : Int64} : ¬ (a < a) := Int64.lt_irrefl
theorem own_sta_keep {Z : State} {h h' : Heap} {C n d : String} {v : Value} {ws : List Addr} (F : Sta Z h C n d v) (K : Keep h h' ws) (q : ∀ x ∈ ws, ∀ cell : Cell, h[x]? = some cell → cell.vm.isStatics = false) : Sta Z h' C n d v := by
  obtain ⟨cf, i, k, f, st, cell, h1, h2, h3, h4, h5, h6, h7⟩ := F
  refine ⟨cf, i, k, f, st, cell, h1, h2, h3, h4, K.2.1 _ _ h5 (fun hm => ?_), h6, h7⟩
  have := q _ hm _ h5
  rw [h6] at this
  cases this
end Jvm.OwnKit
namespace Jvm.Pilot.@@N@@
open Jvm Jvm.ClassFile Sem Op Lib Jvm.Free Jvm.Stand Jvm.LawKit Jvm.RoadKit Jvm.OwnKit Bundle Jvm.Pilot.@@N@@.Jvm.D
theorem d1_0 : decode prog_111_method_4_code 0 = .ok (.aload_n 0, 1) := by decide +kernel
theorem d1_1 : decode prog_111_method_4_code 1 = .ok (.getstatic 10, 3) := by decide +kernel
theorem d1_4 : decode prog_111_method_4_code 4 = .ok (.if_acmp .eq 10, 3) := by decide +kernel
theorem d1_14 : decode prog_111_method_4_code 14 = .ok (.iconst 1, 1) := by decide +kernel
theorem d1_15 : decode prog_111_method_4_code 15 = .ok (.goto 4, 3) := by decide +kernel
theorem d1_19 : decode prog_111_method_4_code 19 = .ok (.ireturn, 1) := by decide +kernel
theorem d1_7 : decode prog_111_method_4_code 7 = .ok (.aload_n 0, 1) := by decide +kernel
theorem d1_8 : decode prog_111_method_4_code 8 = .ok (.getstatic 13, 3) := by decide +kernel
theorem d1_11 : decode prog_111_method_4_code 11 = .ok (.if_acmp .ne 7, 3) := by decide +kernel
theorem d1_18 : decode prog_111_method_4_code 18 = .ok (.iconst 0, 1) := by decide +kernel
theorem pn_0 : plainName "kasane/model/NatType" = true := by first | (simp [plainName, overriddenIn]; done) | decide +kernel
theorem ef_rm1 (m : MethodId) (a : Addr) : entryFrame m #[(.ref a)] 1 = mkF m 0 #[.val (.ref a)] [] := by first | (simp [entryFrame, mkF, argsToLocals, Value.category]; done) | rfl
def Qrm1 (Z : State) (a : Addr) (u_CONE_NAT : Addr) (u_SYMMETRIC_NAT : Addr) (h0 : Heap) (n0 : Nat) (rV : Option Value) (hE : Heap) (LE : List Loc) : Prop := rV = some (.int (b2i (a = u_CONE_NAT ∨ a = u_SYMMETRIC_NAT))) ∧ Fr n0 LE ∧ hE = h0
set_option maxRecDepth 65536 in
set_option maxHeartbeats 40000000 in
theorem rm1 (l : Launch) (Z : State) (a0 : Array Value) (hw : ∀ d ∈ tables_1, d.before a0 Z = true) (ws : List Jvm.Cond) (a : Addr) (u_CONE_NAT : Addr) (u_SYMMETRIC_NAT : Addr) (h0 : Heap) (n0 : Nat) (Z0 : n0 ≤ h0.size) (S_CONE_NAT : Sta Z h0 "kasane/model/NatType" "CONE_NAT" "Lkasane/model/NatType;" (.ref u_CONE_NAT)) (S_SYMMETRIC_NAT : Sta Z h0 "kasane/model/NatType" "SYMMETRIC_NAT" "Lkasane/model/NatType;" (.ref u_SYMMETRIC_NAT)) :
    MetFree l (⟨"kasane/model/NatType", "isBehindNat", "()Z"⟩ : MethodName) (head1 (Jvm.Cond.code (⟨"kasane/model/NatType", "isBehindNat", "()Z"⟩ : MethodName) prog_111_method_4_code 1 (some .boolean) :: ws) ({ frames := 0, cells := 0, slots := 0, locals := 0 } : Room)) (fun aA UA => aA = #[(.ref a)] ∧ Z.Warmed39 UA.vm ∧ UA.heap = h0) (fun _ _ _ _ _ => True) (fun _ UA oA UB => ∃ rV LE, oA = .returned rV ∧ Qrm1 Z a u_CONE_NAT u_SYMMETRIC_NAT h0 n0 rV UB.heap LE ∧ FrameEnd UA oA UB LE ({ frames := 0, cells := 0, slots := 0, locals := 0 } : Room).cells ({ frames := 0, cells := 0, slots := 0, locals := 0 } : Room).slots) := by
  refine MetFree.of_bodySF (plainFor_of_name pn_0) hisR ?_
  intro p e s m args below meth c s₁ Bd hml0 hP hK
  obtain ⟨rfl, hZ, hh⟩ := hP
  have hx := Bd.exec
  have hby := Bd.bytes
  have hml : c.maxLocals = 1 := hml0
  have hown : s.vm.findClass "kasane/model/NatType" = some m.cls := findClass_of_methodNamed Bd.named
  have hnm := (name_of_methodNamed Bd.named Bd.method).1
  have hlk := Bd.notSynchronized
  have X0 : Stand p l e ({ frames := 0, cells := 0, slots := 0, locals := 0 } : Room) s m #[(.ref a)] below meth c s₁ [] 0 0 := Stand.of_body Bd
  have e0 : s₁.heap = h0 := by rw [← hh, Bd.state]; rfl
  have N0 := Fr.nil n0
  show Go p e below s (Qrm1 Z a u_CONE_NAT u_SYMMETRIC_NAT h0 n0) ({ frames := 0, cells := 0, slots := 0, locals := 0 } : Room).cells ({ frames := 0, cells := 0, slots := 0, locals := 0 } : Room).slots s₁ (entryFrame m #[(.ref a)] 1)
  refine Go.eq (ef_rm1 m a) ?_
  show Go p e below s _ _ _ s₁ (mkF m 0 #[.val (.ref a)] [])
  refine Go.st (fun _ => XS.aloadN X0.here hx rfl (hb hby d1_0) rfl rfl) ?_
  show Go p e below s _ _ _ s₁ (mkF m 1 #[.val (.ref a)] [(.ref a)])
  obtain ⟨T1, X1, e1, st1⟩ := getS2 X0 hx hZ hown (host := "") (Or.inl (hw _ (List.mem_of_getElem? (i := 8) rfl))) Via.refl e0 S_CONE_NAT (g := (mkF m 1 #[.val (.ref a)] [(.ref a)])) rfl (hb hby d1_1)
  refine Go.st st1 ?_
  show Go p e below s _ _ _ T1 (mkF m 4 #[.val (.ref a)] [(.ref u_CONE_NAT), (.ref a)])
  by_cases hc2 : a = u_CONE_NAT
  · refine Go.st (fun _ => Jvm.RoadKit.acmp (g := (mkF m 4 #[.val (.ref a)] [(.ref u_CONE_NAT), (.ref a)])) X1 hx rfl rfl rfl (pc0 := 4) (pc' := 14) (same := true) rfl (hb hby d1_4) rfl (decide_eq_true (congrArg Value.ref hc2)) (by decide) (by decide)) ?_
    show Go p e below s _ _ _ T1 (mkF m 14 #[.val (.ref a)] [])
    refine Go.st (fun _ => XS.iconst X1.here hx rfl (hb hby d1_14)) ?_
    show Go p e below s _ _ _ T1 (mkF m 15 #[.val (.ref a)] [(.int (1 : Int32))])
    refine Go.st (fun _ => XS.goto X1.here hx rfl (pc0 := 15) (pc' := 19) rfl (hb hby d1_15) (by decide) (by decide)) ?_
    show Go p e below s _ _ _ T1 (mkF m 19 #[.val (.ref a)] [(.int (1 : Int32))])
    exact Go.retZ X1 hx hlk Bd.returns (hb hby d1_19) rfl (by rw [e1]; exact ⟨(own_b2i_t (by first | exact Or.inl (by assumption) | exact Or.inr (by assumption) | exact (fun q => q.elim (by assumption) (by assumption)) : a = u_CONE_NAT ∨ a = u_SYMMETRIC_NAT)), N0, rfl⟩) (by decide) (by decide)
  · refine Go.st (fun _ => Jvm.RoadKit.acmp (g := (mkF m 4 #[.val (.ref a)] [(.ref u_CONE_NAT), (.ref a)])) X1 hx rfl rfl rfl (pc0 := 4) (pc' := 7) (same := false) rfl (hb hby d1_4) rfl (decide_eq_false fun q => hc2 (Value.ref.inj q)) (by decide) (by decide)) ?_
    show Go p e below s _ _ _ T1 (mkF m 7 #[.val (.ref a)] [])
    refine Go.st (fun _ => XS.aloadN X1.here hx rfl (hb hby d1_7) rfl rfl) ?_
    show Go p e below s _ _ _ T1 (mkF m 8 #[.val (.ref a)] [(.ref a)])
    obtain ⟨T3, X3, e3, st3⟩ := getS2 X1 hx hZ hown (host := "") (Or.inl (hw _ (List.mem_of_getElem? (i := 10) rfl))) Via.refl e1 S_SYMMETRIC_NAT (g := (mkF m 8 #[.val (.ref a)] [(.ref a)])) rfl (hb hby d1_8)
    refine Go.st st3 ?_
    show Go p e below s _ _ _ T3 (mkF m 11 #[.val (.ref a)] [(.ref u_SYMMETRIC_NAT), (.ref a)])
    by_cases hc4 : a = u_SYMMETRIC_NAT
    · refine Go.st (fun _ => Jvm.RoadKit.acmp (g := (mkF m 11 #[.val (.ref a)] [(.ref u_SYMMETRIC_NAT), (.ref a)])) X3 hx rfl rfl rfl (pc0 := 11) (pc' := 14) (same := true) rfl (hb hby d1_11) rfl (decide_eq_true (congrArg Value.ref hc4)) (by decide) (by decide)) ?_
      show Go p e below s _ _ _ T3 (mkF m 14 #[.val (.ref a)] [])
      refine Go.st (fun _ => XS.iconst X3.here hx rfl (hb hby d1_14)) ?_
      show Go p e below s _ _ _ T3 (mkF m 15 #[.val (.ref a)] [(.int (1 : Int32))])
      refine Go.st (fun _ => XS.goto X3.here hx rfl (pc0 := 15) (pc' := 19) rfl (hb hby d1_15) (by decide) (by decide)) ?_
      show Go p e below s _ _ _ T3 (mkF m 19 #[.val (.ref a)] [(.int (1 : Int32))])
      exact Go.retZ X3 hx hlk Bd.returns (hb hby d1_19) rfl (by rw [e3]; exact ⟨(own_b2i_t (by first | exact Or.inl (by assumption) | exact Or.inr (by assumption) | exact (fun q => q.elim (by assumption) (by assumption)) : a = u_CONE_NAT ∨ a = u_SYMMETRIC_NAT)), N0, rfl⟩) (by decide) (by decide)
    · refine Go.st (fun _ => Jvm.RoadKit.acmp (g := (mkF m 11 #[.val (.ref a)] [(.ref u_SYMMETRIC_NAT), (.ref a)])) X3 hx rfl rfl rfl (pc0 := 11) (pc' := 18) (same := false) rfl (hb hby d1_11) rfl (decide_eq_false fun q => hc4 (Value.ref.inj q)) (by decide) (by decide)) ?_
      show Go p e below s _ _ _ T3 (mkF m 18 #[.val (.ref a)] [])
      refine Go.st (fun _ => XS.iconst X3.here hx rfl (hb hby d1_18)) ?_
      show Go p e below s _ _ _ T3 (mkF m 19 #[.val (.ref a)] [(.int (0 : Int32))])
      exact Go.retZ X3 hx hlk Bd.returns (hb hby d1_19) rfl (by rw [e3]; exact ⟨(own_b2i_f (by first | exact Or.inl (by assumption) | exact Or.inr (by assumption) | exact (fun q => q.elim (by assumption) (by assumption)) : ¬ (a = u_CONE_NAT ∨ a = u_SYMMETRIC_NAT))), N0, rfl⟩) (by decide) (by decide)
theorem pd_0 : parseMethodDescriptor "()Z" = some ⟨[], some .boolean⟩ := by decide +kernel
theorem pn_1 : plainName "kasane/model/NatTypeIsBehindNatPinLaw" = true := by first | (simp [plainName, overriddenIn]; done) | decide +kernel
theorem ef_rm0 (m : MethodId) (k : Int32) : entryFrame m #[(.int k)] maxLocals = mkF m 0 #[.val (.int k), .unset, .unset, .unset] [] := by first | (simp [entryFrame, mkF, argsToLocals, Value.category, maxLocals]; done) | rfl
def Qrm0 (Z : State) (k : Int32) (u_UNKNOWN : Addr) (u_CONE_NAT : Addr) (u_SYMMETRIC_NAT : Addr) (u_GLOBAL : Addr) (h0 : Heap) (n0 : Nat) (rV : Option Value) (hE : Heap) (LE : List Loc) : Prop := rV = some (.int (1 : Int32)) ∧ Fr n0 LE
set_option maxRecDepth 65536 in
set_option maxHeartbeats 40000000 in
theorem rm0 (l : Launch) (Z : State) (a0 : Array Value) (hw : ∀ d ∈ tables_1, d.before a0 Z = true) (ws : List Jvm.Cond) (k : Int32) (u_UNKNOWN : Addr) (u_CONE_NAT : Addr) (u_SYMMETRIC_NAT : Addr) (u_GLOBAL : Addr) (h0 : Heap) (n0 : Nat) (Z0 : n0 ≤ h0.size) (S_UNKNOWN : Sta Z h0 "kasane/model/NatType" "UNKNOWN" "Lkasane/model/NatType;" (.ref u_UNKNOWN)) (S_CONE_NAT : Sta Z h0 "kasane/model/NatType" "CONE_NAT" "Lkasane/model/NatType;" (.ref u_CONE_NAT)) (S_SYMMETRIC_NAT : Sta Z h0 "kasane/model/NatType" "SYMMETRIC_NAT" "Lkasane/model/NatType;" (.ref u_SYMMETRIC_NAT)) (S_GLOBAL : Sta Z h0 "kasane/model/NatType" "GLOBAL" "Lkasane/model/NatType;" (.ref u_GLOBAL)) (E_u_UNKNOWN : Exa Z h0 u_UNKNOWN "kasane/model/NatType") (E_u_CONE_NAT : Exa Z h0 u_CONE_NAT "kasane/model/NatType") (E_u_SYMMETRIC_NAT : Exa Z h0 u_SYMMETRIC_NAT "kasane/model/NatType") (E_u_GLOBAL : Exa Z h0 u_GLOBAL "kasane/model/NatType") (ne_u_UNKNOWN_u_CONE_NAT : u_UNKNOWN ≠ u_CONE_NAT) (ne_u_UNKNOWN_u_SYMMETRIC_NAT : u_UNKNOWN ≠ u_SYMMETRIC_NAT) (ne_u_UNKNOWN_u_GLOBAL : u_UNKNOWN ≠ u_GLOBAL) (ne_u_CONE_NAT_u_SYMMETRIC_NAT : u_CONE_NAT ≠ u_SYMMETRIC_NAT) (ne_u_CONE_NAT_u_GLOBAL : u_CONE_NAT ≠ u_GLOBAL) (ne_u_SYMMETRIC_NAT_u_GLOBAL : u_SYMMETRIC_NAT ≠ u_GLOBAL) :
    MetFree l x (head1 (Jvm.Cond.code x code maxLocals ret :: ws) room_1) (fun aA UA => aA = #[(.int k)] ∧ Z.Warmed39 UA.vm ∧ UA.heap = h0) (fun _ _ _ _ _ => True) (fun _ UA oA UB => ∃ rV LE, oA = .returned rV ∧ Qrm0 Z k u_UNKNOWN u_CONE_NAT u_SYMMETRIC_NAT u_GLOBAL h0 n0 rV UB.heap LE ∧ FrameEnd UA oA UB LE room_1.cells room_1.slots) := by
  refine MetFree.of_bodySF (plainFor_of_name pn_1) hisR ?_
  intro p e s m args below meth c s₁ Bd hml0 hP hK
  obtain ⟨rfl, hZ, hh⟩ := hP
  have hx := Bd.exec
  have hby := Bd.bytes
  have hml : c.maxLocals = 4 := hml0
  have hown : s.vm.findClass "kasane/model/NatTypeIsBehindNatPinLaw" = some m.cls := findClass_of_methodNamed Bd.named
  have hnm := (name_of_methodNamed Bd.named Bd.method).1
  have hlk := Bd.notSynchronized
  have X0 : Stand p l e room_1 s m #[(.int k)] below meth c s₁ [] 0 0 := Stand.of_body Bd
  have e0 : s₁.heap = h0 := by rw [← hh, Bd.state]; rfl
  have N0 := Fr.nil n0
  show Go p e below s (Qrm0 Z k u_UNKNOWN u_CONE_NAT u_SYMMETRIC_NAT u_GLOBAL h0 n0) room_1.cells room_1.slots s₁ (entryFrame m #[(.int k)] maxLocals)
  refine Go.eq (ef_rm0 m k) ?_
  show Go p e below s _ _ _ s₁ (mkF m 0 #[.val (.int k), .unset, .unset, .unset] [])
  refine Go.st (fun _ => XS.iloadN X0.here hx rfl (hb hby at_0) rfl) ?_
  show Go p e below s _ _ _ s₁ (mkF m 1 #[.val (.int k), .unset, .unset, .unset] [(.int k)])
  refine Go.st (fun _ => XS.iconst X0.here hx rfl (hb hby at_1)) ?_
  show Go p e below s _ _ _ s₁ (mkF m 2 #[.val (.int k), .unset, .unset, .unset] [(.int (3 : Int32)), (.int k)])
  refine Go.st (fun _ => XS.iand X0.here hx rfl (hb hby at_2) rfl) ?_
  show Go p e below s _ _ _ s₁ (mkF m 3 #[.val (.int k), .unset, .unset, .unset] [(.int (k &&& (3 : Int32)))])
  refine Go.st (fun _ => XS.istoreN X0.here hx rfl (hb hby at_3) rfl (l' := #[.val (.int k), .val (.int (k &&& (3 : Int32))), .unset, .unset]) rfl) ?_
  show Go p e below s _ _ _ s₁ (mkF m 4 #[.val (.int k), .val (.int (k &&& (3 : Int32))), .unset, .unset] [])
  refine Go.st (fun _ => XS.iloadN X0.here hx rfl (hb hby at_4) rfl) ?_
  show Go p e below s _ _ _ s₁ (mkF m 5 #[.val (.int k), .val (.int (k &&& (3 : Int32))), .unset, .unset] [(.int (k &&& (3 : Int32)))])
  by_cases hc1 : (k &&& (3 : Int32)) = (0 : Int32)
  · refine Go.st (fun _ => XS.ifNo X0.here hx rfl (hb hby at_5) rfl ((if0 _ _).trans (teq hc1).2)) ?_
    show Go p e below s _ _ _ s₁ (mkF m 8 #[.val (.int k), .val (.int (k &&& (3 : Int32))), .unset, .unset] [])
    obtain ⟨T2, X2, e2, st2⟩ := getS2 X0 hx hZ hown (host := "") (Or.inl (hw _ (List.mem_of_getElem? (i := 0) rfl))) Via.refl e0 S_UNKNOWN (g := (mkF m 8 #[.val (.int k), .val (.int (k &&& (3 : Int32))), .unset, .unset] [])) rfl (hb hby at_8)
    refine Go.st st2 ?_
    show Go p e below s _ _ _ T2 (mkF m 11 #[.val (.int k), .val (.int (k &&& (3 : Int32))), .unset, .unset] [(.ref u_UNKNOWN)])
    refine Go.st (fun _ => XS.astoreN X2.here hx rfl (hb hby at_11) rfl rfl (l' := #[.val (.int k), .val (.int (k &&& (3 : Int32))), .val (.ref u_UNKNOWN), .unset]) rfl) ?_
    show Go p e below s _ _ _ T2 (mkF m 12 #[.val (.int k), .val (.int (k &&& (3 : Int32))), .val (.ref u_UNKNOWN), .unset] [])
    refine Go.st (fun _ => XS.iconst X2.here hx rfl (hb hby at_12)) ?_
    show Go p e below s _ _ _ T2 (mkF m 13 #[.val (.int k), .val (.int (k &&& (3 : Int32))), .val (.ref u_UNKNOWN), .unset] [(.int (0 : Int32))])
    refine Go.st (fun _ => XS.istoreN X2.here hx rfl (hb hby at_13) rfl (l' := #[.val (.int k), .val (.int (k &&& (3 : Int32))), .val (.ref u_UNKNOWN), .val (.int (0 : Int32))]) rfl) ?_
    show Go p e below s _ _ _ T2 (mkF m 14 #[.val (.int k), .val (.int (k &&& (3 : Int32))), .val (.ref u_UNKNOWN), .val (.int (0 : Int32))] [])
    refine Go.st (fun _ => XS.goto X2.here hx rfl (pc0 := 14) (pc' := 51) rfl (hb hby at_14) (by decide) (by decide)) ?_
    show Go p e below s _ _ _ T2 (mkF m 51 #[.val (.int k), .val (.int (k &&& (3 : Int32))), .val (.ref u_UNKNOWN), .val (.int (0 : Int32))] [])
    refine Go.st (fun _ => XS.aloadN X2.here hx rfl (hb hby at_51) rfl rfl) ?_
    show Go p e below s _ _ _ T2 (mkF m 52 #[.val (.int k), .val (.int (k &&& (3 : Int32))), .val (.ref u_UNKNOWN), .val (.int (0 : Int32))] [(.ref u_UNKNOWN)])
    obtain ⟨cq3, kq3, q3a, q3b, q3c⟩ := isOf hZ e2 E_u_UNKNOWN
    obtain ⟨_, _, ⟨T3, L3, kc3, nc3⟩, -, X3, ⟨Lc3, hQ3, l3, y3, z3⟩, st3⟩ := X2.virtualBack hx (y := (⟨"kasane/model/NatType", "isBehindNat", "()Z"⟩ : MethodName)) (z := (⟨"kasane/model/NatType", "isBehindNat", "()Z"⟩ : MethodName)) hown (mvT hZ (hw _ (List.mem_of_getElem? (i := 3) rfl))) (mvT hZ (hw _ (List.mem_of_getElem? (i := 4) rfl))) (notFace_of_selects (args := #[]) (mvT hZ (hw _ (List.mem_of_getElem? (i := 6) rfl)))) (mvT hZ (hw _ (List.mem_of_getElem? (i := 6) rfl))) (mvT hZ (hw _ (List.mem_of_getElem? (i := 5) rfl))) (by decide) (backOf (W := 0) (rm1 l Z a0 hw [] u_UNKNOWN u_CONE_NAT u_SYMMETRIC_NAT h0 n0 Z0 S_CONE_NAT S_SYMMETRIC_NAT) hZ (hw _ (List.mem_of_getElem? (i := 7) rfl)) (hw _ (List.mem_of_getElem? (i := 1) rfl)) (by decide) (by decide)) q3a q3c (g := (mkF m 52 #[.val (.int k), .val (.int (k &&& (3 : Int32))), .val (.ref u_UNKNOWN), .val (.int (0 : Int32))] [(.ref u_UNKNOWN)])) rfl (by rw [hml]; rfl) (Steps.refl _) (argsL := []) (rest := []) (lenOf pd_0 rfl) rfl (by show 2 * 0 + _ ≤ _; exact Nat.le_of_eq rfl) (hb hby at_52) (fun _ _ => ⟨rfl, e2, (by decide : 0 + 0 ≤ _), (by decide : 0 + 0 ≤ _)⟩)
    dsimp only [Pt.U, Pt.locs, Pt.cells, Pt.slots] at X3 l3 y3 z3 st3 hQ3
    subst l3 y3 z3
    obtain ⟨h3, e3⟩ : ∃ hh, T3.heap = hh := ⟨_, rfl⟩
    rw [e3] at hQ3
    obtain ⟨rfl, N3q, sm3⟩ := hQ3
    have N3 := Fr.app N0 N3q
    refine Go.st (fun _ kk => st3.trans kk) ?_
    rw [sm3] at e3
    show Go p e below s _ _ _ T3 (mkF m 55 #[.val (.int k), .val (.int (k &&& (3 : Int32))), .val (.ref u_UNKNOWN), .val (.int (0 : Int32))] [(.int (b2i (u_UNKNOWN = u_CONE_NAT ∨ u_UNKNOWN = u_SYMMETRIC_NAT)))])
    rw [show (b2i (u_UNKNOWN = u_CONE_NAT ∨ u_UNKNOWN = u_SYMMETRIC_NAT)) = (0 : Int32) from b2i_neg (fun q => q.elim ne_u_UNKNOWN_u_CONE_NAT ne_u_UNKNOWN_u_SYMMETRIC_NAT)]
    show Go p e below s _ _ _ T3 (mkF m 55 #[.val (.int k), .val (.int (k &&& (3 : Int32))), .val (.ref u_UNKNOWN), .val (.int (0 : Int32))] [(.int (0 : Int32))])
    refine Go.st (fun _ => XS.iloadN X3.here hx rfl (hb hby at_55) rfl) ?_
    show Go p e below s _ _ _ T3 (mkF m 56 #[.val (.int k), .val (.int (k &&& (3 : Int32))), .val (.ref u_UNKNOWN), .val (.int (0 : Int32))] [(.int (0 : Int32)), (.int (0 : Int32))])
    refine Go.st (fun _ => XS.icmpNo X3.here hx rfl (hb hby at_56) rfl (teq (by decide : (0 : Int32) = (0 : Int32))).2) ?_
    show Go p e below s _ _ _ T3 (mkF m 59 #[.val (.int k), .val (.int (k &&& (3 : Int32))), .val (.ref u_UNKNOWN), .val (.int (0 : Int32))] [])
    refine Go.st (fun _ => XS.iconst X3.here hx rfl (hb hby at_59)) ?_
    show Go p e below s _ _ _ T3 (mkF m 60 #[.val (.int k), .val (.int (k &&& (3 : Int32))), .val (.ref u_UNKNOWN), .val (.int (0 : Int32))] [(.int (1 : Int32))])
    refine Go.st (fun _ => XS.goto X3.here hx rfl (pc0 := 60) (pc' := 64) rfl (hb hby at_60) (by decide) (by decide)) ?_
    show Go p e below s _ _ _ T3 (mkF m 64 #[.val (.int k), .val (.int (k &&& (3 : Int32))), .val (.ref u_UNKNOWN), .val (.int (0 : Int32))] [(.int (1 : Int32))])
    exact Go.retZ X3 hx hlk Bd.returns (hb hby at_64) rfl (by rw [e3]; exact ⟨rfl, N3⟩) (by decide) (by decide)
  · refine Go.st (fun _ => XS.ifYes X0.here hx rfl (pc0 := 5) (pc' := 17) rfl (hb hby at_5) rfl ((if0 _ _).trans (feq hc1).2) (by decide) (by decide)) ?_
    show Go p e below s _ _ _ s₁ (mkF m 17 #[.val (.int k), .val (.int (k &&& (3 : Int32))), .unset, .unset] [])
    refine Go.st (fun _ => XS.iloadN X0.here hx rfl (hb hby at_17) rfl) ?_
    show Go p e below s _ _ _ s₁ (mkF m 18 #[.val (.int k), .val (.int (k &&& (3 : Int32))), .unset, .unset] [(.int (k &&& (3 : Int32)))])
    refine Go.st (fun _ => XS.iconst X0.here hx rfl (hb hby at_18)) ?_
    show Go p e below s _ _ _ s₁ (mkF m 19 #[.val (.int k), .val (.int (k &&& (3 : Int32))), .unset, .unset] [(.int (1 : Int32)), (.int (k &&& (3 : Int32)))])
    by_cases hc4 : (k &&& (3 : Int32)) = (1 : Int32)
    · refine Go.st (fun _ => XS.icmpNo X0.here hx rfl (hb hby at_19) rfl (teq hc4).2) ?_
      show Go p e below s _ _ _ s₁ (mkF m 22 #[.val (.int k), .val (.int (k &&& (3 : Int32))), .unset, .unset] [])
      obtain ⟨T5, X5, e5, st5⟩ := getS2 X0 hx hZ hown (host := "") (Or.inl (hw _ (List.mem_of_getElem? (i := 14) rfl))) Via.refl e0 S_GLOBAL (g := (mkF m 22 #[.val (.int k), .val (.int (k &&& (3 : Int32))), .unset, .unset] [])) rfl (hb hby at_22)
      refine Go.st st5 ?_
      show Go p e below s _ _ _ T5 (mkF m 25 #[.val (.int k), .val (.int (k &&& (3 : Int32))), .unset, .unset] [(.ref u_GLOBAL)])
      refine Go.st (fun _ => XS.astoreN X5.here hx rfl (hb hby at_25) rfl rfl (l' := #[.val (.int k), .val (.int (k &&& (3 : Int32))), .val (.ref u_GLOBAL), .unset]) rfl) ?_
      show Go p e below s _ _ _ T5 (mkF m 26 #[.val (.int k), .val (.int (k &&& (3 : Int32))), .val (.ref u_GLOBAL), .unset] [])
      refine Go.st (fun _ => XS.iconst X5.here hx rfl (hb hby at_26)) ?_
      show Go p e below s _ _ _ T5 (mkF m 27 #[.val (.int k), .val (.int (k &&& (3 : Int32))), .val (.ref u_GLOBAL), .unset] [(.int (0 : Int32))])
      refine Go.st (fun _ => XS.istoreN X5.here hx rfl (hb hby at_27) rfl (l' := #[.val (.int k), .val (.int (k &&& (3 : Int32))), .val (.ref u_GLOBAL), .val (.int (0 : Int32))]) rfl) ?_
      show Go p e below s _ _ _ T5 (mkF m 28 #[.val (.int k), .val (.int (k &&& (3 : Int32))), .val (.ref u_GLOBAL), .val (.int (0 : Int32))] [])
      refine Go.st (fun _ => XS.goto X5.here hx rfl (pc0 := 28) (pc' := 51) rfl (hb hby at_28) (by decide) (by decide)) ?_
      show Go p e below s _ _ _ T5 (mkF m 51 #[.val (.int k), .val (.int (k &&& (3 : Int32))), .val (.ref u_GLOBAL), .val (.int (0 : Int32))] [])
      refine Go.st (fun _ => XS.aloadN X5.here hx rfl (hb hby at_51) rfl rfl) ?_
      show Go p e below s _ _ _ T5 (mkF m 52 #[.val (.int k), .val (.int (k &&& (3 : Int32))), .val (.ref u_GLOBAL), .val (.int (0 : Int32))] [(.ref u_GLOBAL)])
      obtain ⟨cq6, kq6, q6a, q6b, q6c⟩ := isOf hZ e5 E_u_GLOBAL
      obtain ⟨_, _, ⟨T6, L6, kc6, nc6⟩, -, X6, ⟨Lc6, hQ6, l6, y6, z6⟩, st6⟩ := X5.virtualBack hx (y := (⟨"kasane/model/NatType", "isBehindNat", "()Z"⟩ : MethodName)) (z := (⟨"kasane/model/NatType", "isBehindNat", "()Z"⟩ : MethodName)) hown (mvT hZ (hw _ (List.mem_of_getElem? (i := 3) rfl))) (mvT hZ (hw _ (List.mem_of_getElem? (i := 4) rfl))) (notFace_of_selects (args := #[]) (mvT hZ (hw _ (List.mem_of_getElem? (i := 6) rfl)))) (mvT hZ (hw _ (List.mem_of_getElem? (i := 6) rfl))) (mvT hZ (hw _ (List.mem_of_getElem? (i := 5) rfl))) (by decide) (backOf (W := 0) (rm1 l Z a0 hw [] u_GLOBAL u_CONE_NAT u_SYMMETRIC_NAT h0 n0 Z0 S_CONE_NAT S_SYMMETRIC_NAT) hZ (hw _ (List.mem_of_getElem? (i := 7) rfl)) (hw _ (List.mem_of_getElem? (i := 1) rfl)) (by decide) (by decide)) q6a q6c (g := (mkF m 52 #[.val (.int k), .val (.int (k &&& (3 : Int32))), .val (.ref u_GLOBAL), .val (.int (0 : Int32))] [(.ref u_GLOBAL)])) rfl (by rw [hml]; rfl) (Steps.refl _) (argsL := []) (rest := []) (lenOf pd_0 rfl) rfl (by show 2 * 0 + _ ≤ _; exact Nat.le_of_eq rfl) (hb hby at_52) (fun _ _ => ⟨rfl, e5, (by decide : 0 + 0 ≤ _), (by decide : 0 + 0 ≤ _)⟩)
      dsimp only [Pt.U, Pt.locs, Pt.cells, Pt.slots] at X6 l6 y6 z6 st6 hQ6
      subst l6 y6 z6
      obtain ⟨h6, e6⟩ : ∃ hh, T6.heap = hh := ⟨_, rfl⟩
      rw [e6] at hQ6
      obtain ⟨rfl, N6q, sm6⟩ := hQ6
      have N6 := Fr.app N0 N6q
      refine Go.st (fun _ kk => st6.trans kk) ?_
      rw [sm6] at e6
      show Go p e below s _ _ _ T6 (mkF m 55 #[.val (.int k), .val (.int (k &&& (3 : Int32))), .val (.ref u_GLOBAL), .val (.int (0 : Int32))] [(.int (b2i (u_GLOBAL = u_CONE_NAT ∨ u_GLOBAL = u_SYMMETRIC_NAT)))])
      rw [show (b2i (u_GLOBAL = u_CONE_NAT ∨ u_GLOBAL = u_SYMMETRIC_NAT)) = (0 : Int32) from b2i_neg (fun q => q.elim (Ne.symm ne_u_CONE_NAT_u_GLOBAL) (Ne.symm ne_u_SYMMETRIC_NAT_u_GLOBAL))]
      show Go p e below s _ _ _ T6 (mkF m 55 #[.val (.int k), .val (.int (k &&& (3 : Int32))), .val (.ref u_GLOBAL), .val (.int (0 : Int32))] [(.int (0 : Int32))])
      refine Go.st (fun _ => XS.iloadN X6.here hx rfl (hb hby at_55) rfl) ?_
      show Go p e below s _ _ _ T6 (mkF m 56 #[.val (.int k), .val (.int (k &&& (3 : Int32))), .val (.ref u_GLOBAL), .val (.int (0 : Int32))] [(.int (0 : Int32)), (.int (0 : Int32))])
      refine Go.st (fun _ => XS.icmpNo X6.here hx rfl (hb hby at_56) rfl (teq (by decide : (0 : Int32) = (0 : Int32))).2) ?_
      show Go p e below s _ _ _ T6 (mkF m 59 #[.val (.int k), .val (.int (k &&& (3 : Int32))), .val (.ref u_GLOBAL), .val (.int (0 : Int32))] [])
      refine Go.st (fun _ => XS.iconst X6.here hx rfl (hb hby at_59)) ?_
      show Go p e below s _ _ _ T6 (mkF m 60 #[.val (.int k), .val (.int (k &&& (3 : Int32))), .val (.ref u_GLOBAL), .val (.int (0 : Int32))] [(.int (1 : Int32))])
      refine Go.st (fun _ => XS.goto X6.here hx rfl (pc0 := 60) (pc' := 64) rfl (hb hby at_60) (by decide) (by decide)) ?_
      show Go p e below s _ _ _ T6 (mkF m 64 #[.val (.int k), .val (.int (k &&& (3 : Int32))), .val (.ref u_GLOBAL), .val (.int (0 : Int32))] [(.int (1 : Int32))])
      exact Go.retZ X6 hx hlk Bd.returns (hb hby at_64) rfl (by rw [e6]; exact ⟨rfl, N6⟩) (by decide) (by decide)
    · refine Go.st (fun _ => XS.icmpYes X0.here hx rfl (pc0 := 19) (pc' := 31) rfl (hb hby at_19) rfl (feq hc4).2 (by decide) (by decide)) ?_
      show Go p e below s _ _ _ s₁ (mkF m 31 #[.val (.int k), .val (.int (k &&& (3 : Int32))), .unset, .unset] [])
      refine Go.st (fun _ => XS.iloadN X0.here hx rfl (hb hby at_31) rfl) ?_
      show Go p e below s _ _ _ s₁ (mkF m 32 #[.val (.int k), .val (.int (k &&& (3 : Int32))), .unset, .unset] [(.int (k &&& (3 : Int32)))])
      refine Go.st (fun _ => XS.iconst X0.here hx rfl (hb hby at_32)) ?_
      show Go p e below s _ _ _ s₁ (mkF m 33 #[.val (.int k), .val (.int (k &&& (3 : Int32))), .unset, .unset] [(.int (2 : Int32)), (.int (k &&& (3 : Int32)))])
      by_cases hc7 : (k &&& (3 : Int32)) = (2 : Int32)
      · refine Go.st (fun _ => XS.icmpNo X0.here hx rfl (hb hby at_33) rfl (teq hc7).2) ?_
        show Go p e below s _ _ _ s₁ (mkF m 36 #[.val (.int k), .val (.int (k &&& (3 : Int32))), .unset, .unset] [])
        obtain ⟨T8, X8, e8, st8⟩ := getS2 X0 hx hZ hown (host := "") (Or.inl (hw _ (List.mem_of_getElem? (i := 13) rfl))) Via.refl e0 S_CONE_NAT (g := (mkF m 36 #[.val (.int k), .val (.int (k &&& (3 : Int32))), .unset, .unset] [])) rfl (hb hby at_36)
        refine Go.st st8 ?_
        show Go p e below s _ _ _ T8 (mkF m 39 #[.val (.int k), .val (.int (k &&& (3 : Int32))), .unset, .unset] [(.ref u_CONE_NAT)])
        refine Go.st (fun _ => XS.astoreN X8.here hx rfl (hb hby at_39) rfl rfl (l' := #[.val (.int k), .val (.int (k &&& (3 : Int32))), .val (.ref u_CONE_NAT), .unset]) rfl) ?_
        show Go p e below s _ _ _ T8 (mkF m 40 #[.val (.int k), .val (.int (k &&& (3 : Int32))), .val (.ref u_CONE_NAT), .unset] [])
        refine Go.st (fun _ => XS.iconst X8.here hx rfl (hb hby at_40)) ?_
        show Go p e below s _ _ _ T8 (mkF m 41 #[.val (.int k), .val (.int (k &&& (3 : Int32))), .val (.ref u_CONE_NAT), .unset] [(.int (1 : Int32))])
        refine Go.st (fun _ => XS.istoreN X8.here hx rfl (hb hby at_41) rfl (l' := #[.val (.int k), .val (.int (k &&& (3 : Int32))), .val (.ref u_CONE_NAT), .val (.int (1 : Int32))]) rfl) ?_
        show Go p e below s _ _ _ T8 (mkF m 42 #[.val (.int k), .val (.int (k &&& (3 : Int32))), .val (.ref u_CONE_NAT), .val (.int (1 : Int32))] [])
        refine Go.st (fun _ => XS.goto X8.here hx rfl (pc0 := 42) (pc' := 51) rfl (hb hby at_42) (by decide) (by decide)) ?_
        show Go p e below s _ _ _ T8 (mkF m 51 #[.val (.int k), .val (.int (k &&& (3 : Int32))), .val (.ref u_CONE_NAT), .val (.int (1 : Int32))] [])
        refine Go.st (fun _ => XS.aloadN X8.here hx rfl (hb hby at_51) rfl rfl) ?_
        show Go p e below s _ _ _ T8 (mkF m 52 #[.val (.int k), .val (.int (k &&& (3 : Int32))), .val (.ref u_CONE_NAT), .val (.int (1 : Int32))] [(.ref u_CONE_NAT)])
        obtain ⟨cq9, kq9, q9a, q9b, q9c⟩ := isOf hZ e8 E_u_CONE_NAT
        obtain ⟨_, _, ⟨T9, L9, kc9, nc9⟩, -, X9, ⟨Lc9, hQ9, l9, y9, z9⟩, st9⟩ := X8.virtualBack hx (y := (⟨"kasane/model/NatType", "isBehindNat", "()Z"⟩ : MethodName)) (z := (⟨"kasane/model/NatType", "isBehindNat", "()Z"⟩ : MethodName)) hown (mvT hZ (hw _ (List.mem_of_getElem? (i := 3) rfl))) (mvT hZ (hw _ (List.mem_of_getElem? (i := 4) rfl))) (notFace_of_selects (args := #[]) (mvT hZ (hw _ (List.mem_of_getElem? (i := 6) rfl)))) (mvT hZ (hw _ (List.mem_of_getElem? (i := 6) rfl))) (mvT hZ (hw _ (List.mem_of_getElem? (i := 5) rfl))) (by decide) (backOf (W := 0) (rm1 l Z a0 hw [] u_CONE_NAT u_CONE_NAT u_SYMMETRIC_NAT h0 n0 Z0 S_CONE_NAT S_SYMMETRIC_NAT) hZ (hw _ (List.mem_of_getElem? (i := 7) rfl)) (hw _ (List.mem_of_getElem? (i := 1) rfl)) (by decide) (by decide)) q9a q9c (g := (mkF m 52 #[.val (.int k), .val (.int (k &&& (3 : Int32))), .val (.ref u_CONE_NAT), .val (.int (1 : Int32))] [(.ref u_CONE_NAT)])) rfl (by rw [hml]; rfl) (Steps.refl _) (argsL := []) (rest := []) (lenOf pd_0 rfl) rfl (by show 2 * 0 + _ ≤ _; exact Nat.le_of_eq rfl) (hb hby at_52) (fun _ _ => ⟨rfl, e8, (by decide : 0 + 0 ≤ _), (by decide : 0 + 0 ≤ _)⟩)
        dsimp only [Pt.U, Pt.locs, Pt.cells, Pt.slots] at X9 l9 y9 z9 st9 hQ9
        subst l9 y9 z9
        obtain ⟨h9, e9⟩ : ∃ hh, T9.heap = hh := ⟨_, rfl⟩
        rw [e9] at hQ9
        obtain ⟨rfl, N9q, sm9⟩ := hQ9
        have N9 := Fr.app N0 N9q
        refine Go.st (fun _ kk => st9.trans kk) ?_
        rw [sm9] at e9
        show Go p e below s _ _ _ T9 (mkF m 55 #[.val (.int k), .val (.int (k &&& (3 : Int32))), .val (.ref u_CONE_NAT), .val (.int (1 : Int32))] [(.int (b2i (u_CONE_NAT = u_CONE_NAT ∨ u_CONE_NAT = u_SYMMETRIC_NAT)))])
        rw [show (b2i (u_CONE_NAT = u_CONE_NAT ∨ u_CONE_NAT = u_SYMMETRIC_NAT)) = (1 : Int32) from b2i_pos (Or.inl rfl)]
        show Go p e below s _ _ _ T9 (mkF m 55 #[.val (.int k), .val (.int (k &&& (3 : Int32))), .val (.ref u_CONE_NAT), .val (.int (1 : Int32))] [(.int (1 : Int32))])
        refine Go.st (fun _ => XS.iloadN X9.here hx rfl (hb hby at_55) rfl) ?_
        show Go p e below s _ _ _ T9 (mkF m 56 #[.val (.int k), .val (.int (k &&& (3 : Int32))), .val (.ref u_CONE_NAT), .val (.int (1 : Int32))] [(.int (1 : Int32)), (.int (1 : Int32))])
        refine Go.st (fun _ => XS.icmpNo X9.here hx rfl (hb hby at_56) rfl (teq (by decide : (1 : Int32) = (1 : Int32))).2) ?_
        show Go p e below s _ _ _ T9 (mkF m 59 #[.val (.int k), .val (.int (k &&& (3 : Int32))), .val (.ref u_CONE_NAT), .val (.int (1 : Int32))] [])
        refine Go.st (fun _ => XS.iconst X9.here hx rfl (hb hby at_59)) ?_
        show Go p e below s _ _ _ T9 (mkF m 60 #[.val (.int k), .val (.int (k &&& (3 : Int32))), .val (.ref u_CONE_NAT), .val (.int (1 : Int32))] [(.int (1 : Int32))])
        refine Go.st (fun _ => XS.goto X9.here hx rfl (pc0 := 60) (pc' := 64) rfl (hb hby at_60) (by decide) (by decide)) ?_
        show Go p e below s _ _ _ T9 (mkF m 64 #[.val (.int k), .val (.int (k &&& (3 : Int32))), .val (.ref u_CONE_NAT), .val (.int (1 : Int32))] [(.int (1 : Int32))])
        exact Go.retZ X9 hx hlk Bd.returns (hb hby at_64) rfl (by rw [e9]; exact ⟨rfl, N9⟩) (by decide) (by decide)
      · refine Go.st (fun _ => XS.icmpYes X0.here hx rfl (pc0 := 33) (pc' := 45) rfl (hb hby at_33) rfl (feq hc7).2 (by decide) (by decide)) ?_
        show Go p e below s _ _ _ s₁ (mkF m 45 #[.val (.int k), .val (.int (k &&& (3 : Int32))), .unset, .unset] [])
        obtain ⟨T10, X10, e10, st10⟩ := getS2 X0 hx hZ hown (host := "") (Or.inl (hw _ (List.mem_of_getElem? (i := 12) rfl))) Via.refl e0 S_SYMMETRIC_NAT (g := (mkF m 45 #[.val (.int k), .val (.int (k &&& (3 : Int32))), .unset, .unset] [])) rfl (hb hby at_45)
        refine Go.st st10 ?_
        show Go p e below s _ _ _ T10 (mkF m 48 #[.val (.int k), .val (.int (k &&& (3 : Int32))), .unset, .unset] [(.ref u_SYMMETRIC_NAT)])
        refine Go.st (fun _ => XS.astoreN X10.here hx rfl (hb hby at_48) rfl rfl (l' := #[.val (.int k), .val (.int (k &&& (3 : Int32))), .val (.ref u_SYMMETRIC_NAT), .unset]) rfl) ?_
        show Go p e below s _ _ _ T10 (mkF m 49 #[.val (.int k), .val (.int (k &&& (3 : Int32))), .val (.ref u_SYMMETRIC_NAT), .unset] [])
        refine Go.st (fun _ => XS.iconst X10.here hx rfl (hb hby at_49)) ?_
        show Go p e below s _ _ _ T10 (mkF m 50 #[.val (.int k), .val (.int (k &&& (3 : Int32))), .val (.ref u_SYMMETRIC_NAT), .unset] [(.int (1 : Int32))])
        refine Go.st (fun _ => XS.istoreN X10.here hx rfl (hb hby at_50) rfl (l' := #[.val (.int k), .val (.int (k &&& (3 : Int32))), .val (.ref u_SYMMETRIC_NAT), .val (.int (1 : Int32))]) rfl) ?_
        show Go p e below s _ _ _ T10 (mkF m 51 #[.val (.int k), .val (.int (k &&& (3 : Int32))), .val (.ref u_SYMMETRIC_NAT), .val (.int (1 : Int32))] [])
        refine Go.st (fun _ => XS.aloadN X10.here hx rfl (hb hby at_51) rfl rfl) ?_
        show Go p e below s _ _ _ T10 (mkF m 52 #[.val (.int k), .val (.int (k &&& (3 : Int32))), .val (.ref u_SYMMETRIC_NAT), .val (.int (1 : Int32))] [(.ref u_SYMMETRIC_NAT)])
        obtain ⟨cq11, kq11, q11a, q11b, q11c⟩ := isOf hZ e10 E_u_SYMMETRIC_NAT
        obtain ⟨_, _, ⟨T11, L11, kc11, nc11⟩, -, X11, ⟨Lc11, hQ11, l11, y11, z11⟩, st11⟩ := X10.virtualBack hx (y := (⟨"kasane/model/NatType", "isBehindNat", "()Z"⟩ : MethodName)) (z := (⟨"kasane/model/NatType", "isBehindNat", "()Z"⟩ : MethodName)) hown (mvT hZ (hw _ (List.mem_of_getElem? (i := 3) rfl))) (mvT hZ (hw _ (List.mem_of_getElem? (i := 4) rfl))) (notFace_of_selects (args := #[]) (mvT hZ (hw _ (List.mem_of_getElem? (i := 6) rfl)))) (mvT hZ (hw _ (List.mem_of_getElem? (i := 6) rfl))) (mvT hZ (hw _ (List.mem_of_getElem? (i := 5) rfl))) (by decide) (backOf (W := 0) (rm1 l Z a0 hw [] u_SYMMETRIC_NAT u_CONE_NAT u_SYMMETRIC_NAT h0 n0 Z0 S_CONE_NAT S_SYMMETRIC_NAT) hZ (hw _ (List.mem_of_getElem? (i := 7) rfl)) (hw _ (List.mem_of_getElem? (i := 1) rfl)) (by decide) (by decide)) q11a q11c (g := (mkF m 52 #[.val (.int k), .val (.int (k &&& (3 : Int32))), .val (.ref u_SYMMETRIC_NAT), .val (.int (1 : Int32))] [(.ref u_SYMMETRIC_NAT)])) rfl (by rw [hml]; rfl) (Steps.refl _) (argsL := []) (rest := []) (lenOf pd_0 rfl) rfl (by show 2 * 0 + _ ≤ _; exact Nat.le_of_eq rfl) (hb hby at_52) (fun _ _ => ⟨rfl, e10, (by decide : 0 + 0 ≤ _), (by decide : 0 + 0 ≤ _)⟩)
        dsimp only [Pt.U, Pt.locs, Pt.cells, Pt.slots] at X11 l11 y11 z11 st11 hQ11
        subst l11 y11 z11
        obtain ⟨h11, e11⟩ : ∃ hh, T11.heap = hh := ⟨_, rfl⟩
        rw [e11] at hQ11
        obtain ⟨rfl, N11q, sm11⟩ := hQ11
        have N11 := Fr.app N0 N11q
        refine Go.st (fun _ kk => st11.trans kk) ?_
        rw [sm11] at e11
        show Go p e below s _ _ _ T11 (mkF m 55 #[.val (.int k), .val (.int (k &&& (3 : Int32))), .val (.ref u_SYMMETRIC_NAT), .val (.int (1 : Int32))] [(.int (b2i (u_SYMMETRIC_NAT = u_CONE_NAT ∨ u_SYMMETRIC_NAT = u_SYMMETRIC_NAT)))])
        rw [show (b2i (u_SYMMETRIC_NAT = u_CONE_NAT ∨ u_SYMMETRIC_NAT = u_SYMMETRIC_NAT)) = (1 : Int32) from b2i_pos (Or.inr rfl)]
        show Go p e below s _ _ _ T11 (mkF m 55 #[.val (.int k), .val (.int (k &&& (3 : Int32))), .val (.ref u_SYMMETRIC_NAT), .val (.int (1 : Int32))] [(.int (1 : Int32))])
        refine Go.st (fun _ => XS.iloadN X11.here hx rfl (hb hby at_55) rfl) ?_
        show Go p e below s _ _ _ T11 (mkF m 56 #[.val (.int k), .val (.int (k &&& (3 : Int32))), .val (.ref u_SYMMETRIC_NAT), .val (.int (1 : Int32))] [(.int (1 : Int32)), (.int (1 : Int32))])
        refine Go.st (fun _ => XS.icmpNo X11.here hx rfl (hb hby at_56) rfl (teq (by decide : (1 : Int32) = (1 : Int32))).2) ?_
        show Go p e below s _ _ _ T11 (mkF m 59 #[.val (.int k), .val (.int (k &&& (3 : Int32))), .val (.ref u_SYMMETRIC_NAT), .val (.int (1 : Int32))] [])
        refine Go.st (fun _ => XS.iconst X11.here hx rfl (hb hby at_59)) ?_
        show Go p e below s _ _ _ T11 (mkF m 60 #[.val (.int k), .val (.int (k &&& (3 : Int32))), .val (.ref u_SYMMETRIC_NAT), .val (.int (1 : Int32))] [(.int (1 : Int32))])
        refine Go.st (fun _ => XS.goto X11.here hx rfl (pc0 := 60) (pc' := 64) rfl (hb hby at_60) (by decide) (by decide)) ?_
        show Go p e below s _ _ _ T11 (mkF m 64 #[.val (.int k), .val (.int (k &&& (3 : Int32))), .val (.ref u_SYMMETRIC_NAT), .val (.int (1 : Int32))] [(.int (1 : Int32))])
        exact Go.retZ X11 hx hlk Bd.returns (hb hby at_64) rfl (by rw [e11]; exact ⟨rfl, N11⟩) (by decide) (by decide)
set_option maxRecDepth 65536 in
set_option maxHeartbeats 40000000 in
theorem comes_1 {Post : Tables → Env → Array Value → State → Outcome → State → Prop} (hpost : ∀ tb e args s v u, (limb_1_1.after args s (.returned v) u = true ∧ limb_1_2.after args s (.returned v) u = true ∧ True) → FrameEnd s (.returned v) u (Jvm.fieldLocs frame_1_writes args s ++ Jvm.arrayLocs frame_1_arrays args s ++ Jvm.staticLocs frame_1_statics s) 0 0 → Post tb e args s (.returned v) u) :
    ArmFor flags0 classFile x code maxLocals ret World_1 tables_1 room_1 Calls_1 rest_1 Pre_1 Post := by
  intro l hfl _ _ p e ha hc hk s m args below hf hA hF happ hP
  obtain ⟨hcalls, hrest, hpre⟩ := hP
  obtain ⟨-, -, -, hnamed, -, -, -, hat⟩ := (Spec.applies_iff hf).mp happ
  obtain ⟨hg, hn⟩ := and_e (Cond.before_iff.mp (show (Jvm.Cond.and given_1 narrow_1).before args s = true from hpre))
  obtain ⟨g1, g2⟩ := and_e hg
  obtain ⟨w0, rfl⟩ : ∃ w0 : Value, args = #[w0] := by
    have hs : args.size = 1 := by simpa [Cond.value, given_1] using g1
    obtain ⟨L⟩ := args
    match L, hs with
    | [w0], _ => exact ⟨w0, rfl⟩
  have hw := fun d (hd : d ∈ tables_1) => atoms_spec (ws := Jvm.Cond.code x code maxLocals ret :: tables_1) hat d (List.mem_cons_of_mem _ hd)
  have hfit : Fit s := fun {y c} hc i hi => by
    obtain ⟨ha, rfl⟩ := Array.getElem?_eq_some_iff.mp hc
    have q := List.all_eq_true.mp ((Array.all_eq_true_iff_forall_mem.mp hF) _ (Array.getElem_mem ha)) i (List.mem_range.mpr hi)
    simpa [Array.getElem?_eq_getElem hi] using q
  obtain ⟨i0, ei0⟩ := is_v g2
  obtain rfl : w0 = (.int i0) := Option.some.inj ei0
  obtain ⟨m1, m2⟩ := and_e hn
  obtain ⟨m3, m4⟩ := and_e m2
  obtain ⟨m5, m6⟩ := and_e m4
  obtain ⟨m7, m8⟩ := and_e m6
  obtain ⟨m9, m10⟩ := and_e m8
  obtain ⟨m11, m12⟩ := and_e m10
  obtain ⟨m13, m14⟩ := and_e m12
  obtain ⟨u_UNKNOWN, ev_UNKNOWN⟩ := exa_v m1
  have E_UNKNOWN := Exa.start ev_UNKNOWN m1
  have S_UNKNOWN := Sta.start ev_UNKNOWN (Or.inr ⟨(hw _ (List.mem_of_getElem? (i := 1) rfl)), (hw _ (List.mem_of_getElem? (i := 2) rfl))⟩)
  have F_UNKNOWN := own_ord ev_UNKNOWN m5
  obtain ⟨u_CONE_NAT, ev_CONE_NAT⟩ := exa_v m3
  have E_CONE_NAT := Exa.start ev_CONE_NAT m3
  have S_CONE_NAT := Sta.start ev_CONE_NAT (Or.inr ⟨(hw _ (List.mem_of_getElem? (i := 1) rfl)), (hw _ (List.mem_of_getElem? (i := 9) rfl))⟩)
  have F_CONE_NAT := own_ord ev_CONE_NAT m7
  obtain ⟨u_SYMMETRIC_NAT, ev_SYMMETRIC_NAT⟩ := exa_v m9
  have E_SYMMETRIC_NAT := Exa.start ev_SYMMETRIC_NAT m9
  have S_SYMMETRIC_NAT := Sta.start ev_SYMMETRIC_NAT (Or.inr ⟨(hw _ (List.mem_of_getElem? (i := 1) rfl)), (hw _ (List.mem_of_getElem? (i := 11) rfl))⟩)
  have F_SYMMETRIC_NAT := own_ord ev_SYMMETRIC_NAT m11
  obtain ⟨u_GLOBAL, ev_GLOBAL⟩ := exa_v m13
  have E_GLOBAL := Exa.start ev_GLOBAL m13
  have S_GLOBAL := Sta.start ev_GLOBAL (Or.inr ⟨(hw _ (List.mem_of_getElem? (i := 1) rfl)), (hw _ (List.mem_of_getElem? (i := 15) rfl))⟩)
  have F_GLOBAL := own_ord ev_GLOBAL m14
  obtain ⟨n, o, h1, h2, h3, _, L, rfl, ⟨rfl, N⟩, hq⟩ := rm0 l s _ hw tables_1 i0 u_UNKNOWN u_CONE_NAT u_SYMMETRIC_NAT u_GLOBAL s.heap s.heap.size (Nat.le_refl _) S_UNKNOWN S_CONE_NAT S_SYMMETRIC_NAT S_GLOBAL E_UNKNOWN E_CONE_NAT E_SYMMETRIC_NAT E_GLOBAL (F_UNKNOWN.ne F_CONE_NAT (by decide)) (F_UNKNOWN.ne F_SYMMETRIC_NAT (by decide)) (F_UNKNOWN.ne F_GLOBAL (by decide)) (F_CONE_NAT.ne F_SYMMETRIC_NAT (by decide)) (F_CONE_NAT.ne F_GLOBAL (by decide)) (F_SYMMETRIC_NAT.ne F_GLOBAL (by decide)) p e ha hc hk s m _ below hf ((Spec.applies_iff_loose hf).mp happ).1 ⟨rfl, State.Warmed39.refl s, rfl⟩ trivial
  refine ⟨n, _, h1, h2, h3, hpost _ _ _ _ _ _ ⟨Cond.after_iff.mpr rfl, Cond.after_iff.mpr (eq_i res_at (Term.int_eval (1)) rfl), trivial⟩ ⟨hq.1, hq.2.1, (hq.2.2.sift fun y hy => Or.inr (N y hy)).mono (by decide) (by decide)⟩⟩
theorem main_1_1 : Claimed_1_1 := comes_1 fun _ _ _ _ _ _ h hF => ⟨h.1, hF⟩
theorem main_1_2 : Claimed_1_2 := comes_1 fun _ _ _ _ _ _ h hF => ⟨h.2.1, hF⟩
end Jvm.Pilot.@@N@@
namespace Jvm.Pilot.@@N@@
open Jvm Jvm.ClassFile Sem Op Lib Jvm.Free Jvm.Stand Jvm.Pilot.@@N@@.Jvm.D
/-! MADE BY PROGRAM (witnessworld.py) out of the Statement's table words and the real class files: 12 classes; the members and pool entries that the words name. The judged class is class 1, her method 1. -/
namespace start1
open Jvm.ClassFile
def u (s : String) : CpInfo := .utf8 (stringToUtf16 s)
/-- a pool by its gaps: so many unusable entries, then the entry; so many at the end -/
def gap : Nat → List CpInfo → List CpInfo
  | 0, r => r
  | n + 1, r => .unusable :: gap n r
def poolList (es : List (Nat × CpInfo)) (last : Nat) : List CpInfo := es.foldr (fun e r => gap e.1 (e.2 :: r)) (gap last [])
def pool (es : List (Nat × CpInfo)) (last : Nat) : Array CpInfo := ⟨poolList es last⟩
def fileOf (pool : Array CpInfo) (this : Nat) (attrs : Array Attribute := #[]) (ms : Array MethodInfo := #[]) (fl : Nat := 33) (sup : Nat := 0) (ifs : Array Nat := #[]) (fds : Array FieldInfo := #[]) : ClassFile where
  minorVersion := 0
  majorVersion := 65
  constantPool := pool
  accessFlags := fl
  thisClass := this
  superClass := sup
  interfaces := ifs
  fields := fds
  methods := ms
  attributes := attrs
def plain (name : String) (sup : Option ClassId) : Class where
  name := name
  kind := .ordinary
  loader := none
  accessFlags := 33
  super := sup
  interfaces := #[]
  cf := none
  fields := #[]
  methods := #[]
  instanceTypes := #[]
  staticTypes := #[]
  resolved := #[]
  callSites := []
  init := .initialized
  statics := none
  mirror := none

def pool0 : Array CpInfo := pool [(5, u "<init>"), (0, u "()V"), (1, .class_ 10), (1, u "java/lang/Object")] 113

def k0m0 : Method := { name := "<init>", desc := "()V", sig := { parameters := [], returnType := none }, accessFlags := 1, code := none }
/-- java/lang/Object -/
def k0 : Class := { plain "java/lang/Object" none with
  accessFlags := 33
  interfaces := #[]
  cf := some (fileOf pool0 8 #[] #[{ accessFlags := 1, nameIndex := 5, descriptorIndex := 6, attributes := #[] }] 33 0 #[] #[])
  fields := #[]
  methods := #[k0m0]
  instanceTypes := #[]
  staticTypes := #[]
  resolved := Array.replicate 124 none
  statics := none }

def pool1 : Array CpInfo := pool [(2, .class_ 4), (1, u "java/lang/Object"), (0, u "<init>"), (0, u "()V"), (0, .fieldref 8 9), (0, .class_ 10), (0, .nameAndType 11 12), (0, u "kasane/model/NatType"), (0, u "UNKNOWN"), (0, u "Lkasane/model/NatType;"), (0, .fieldref 8 14), (0, .nameAndType 15 12), (0, u "GLOBAL"), (0, .fieldref 8 17), (0, .nameAndType 18 12), (0, u "CONE_NAT"), (0, .fieldref 8 20), (0, .nameAndType 21 12), (0, u "SYMMETRIC_NAT"), (0, .methodref 8 23), (0, .nameAndType 24 25), (0, u "isBehindNat"), (0, u "()Z"), (0, .class_ 27), (0, u "kasane/model/NatTypeIsBehindNatPinLaw"), (2, u "law"), (0, u "(I)Z")] 3

def k1m0 : Method := { name := "<init>", desc := "()V", sig := { parameters := [], returnType := none }, accessFlags := 1, code := none }
def k1c1 : Code := { maxStack := 2, maxLocals := 4, code := code, exceptionTable := #[], attributes := #[] }
def k1m1 : Method := { name := "law", desc := "(I)Z", sig := { parameters := [.int], returnType := some .boolean }, accessFlags := 9, code := some k1c1 }
/-- kasane/model/NatTypeIsBehindNatPinLaw -/
def k1 : Class := { plain "kasane/model/NatTypeIsBehindNatPinLaw" (some 0) with
  accessFlags := 49
  interfaces := #[]
  cf := some (fileOf pool1 26 #[] #[{ accessFlags := 1, nameIndex := 5, descriptorIndex := 6, attributes := #[] }, { accessFlags := 9, nameIndex := 30, descriptorIndex := 31, attributes := #[] }] 49 2 #[] #[])
  fields := #[]
  methods := #[k1m0, k1m1]
  instanceTypes := #[]
  staticTypes := #[]
  resolved := Array.replicate 35 none
  statics := none }

def pool2 : Array CpInfo := pool [(1, .class_ 2), (0, u "java/lang/constant/Constable"), (0, .class_ 4), (0, u "java/lang/Object")] 6

/-- java/lang/constant/Constable -/
def k2 : Class := { plain "java/lang/constant/Constable" (some 0) with
  accessFlags := 1537
  interfaces := #[]
  cf := some (fileOf pool2 1 #[] #[] 1537 3 #[] #[])
  fields := #[]
  methods := #[]
  instanceTypes := #[]
  staticTypes := #[]
  resolved := Array.replicate 11 none
  statics := none }

def pool3 : Array CpInfo := pool [(1, .class_ 2), (0, u "java/lang/Comparable"), (0, .class_ 4), (0, u "java/lang/Object")] 7

/-- java/lang/Comparable -/
def k3 : Class := { plain "java/lang/Comparable" (some 0) with
  accessFlags := 1537
  interfaces := #[]
  cf := some (fileOf pool3 1 #[] #[] 1537 3 #[] #[])
  fields := #[]
  methods := #[]
  instanceTypes := #[]
  staticTypes := #[]
  resolved := Array.replicate 12 none
  statics := none }

def pool4 : Array CpInfo := pool [(1, .class_ 2), (0, u "java/io/Serializable"), (0, .class_ 4), (0, u "java/lang/Object")] 2

/-- java/io/Serializable -/
def k4 : Class := { plain "java/io/Serializable" (some 0) with
  accessFlags := 1537
  interfaces := #[]
  cf := some (fileOf pool4 1 #[] #[] 1537 3 #[] #[])
  fields := #[]
  methods := #[]
  instanceTypes := #[]
  staticTypes := #[]
  resolved := Array.replicate 7 none
  statics := none }

def pool5 : Array CpInfo := pool [(2, .class_ 4), (1, u "java/lang/Enum"), (0, u "name"), (0, u "Ljava/lang/String;"), (2, u "ordinal"), (0, u "I"), (1, .class_ 14), (1, u "java/lang/Object"), (4, u "hash"), (86, .class_ 108), (1, u "java/lang/Enum$EnumDesc"), (2, .class_ 112), (0, u "java/lang/constant/Constable"), (0, .class_ 114), (0, u "java/lang/Comparable"), (0, .class_ 116), (0, u "java/io/Serializable")] 87

/-- java/lang/Enum -/
def k5 : Class := { plain "java/lang/Enum" (some 0) with
  accessFlags := 1057
  interfaces := #[2, 3, 4]
  cf := some (fileOf pool5 2 #[.nestMembers #[106]] #[] 1057 12 #[111, 113, 115] #[{ accessFlags := 18, nameIndex := 5, descriptorIndex := 6, attributes := #[] }, { accessFlags := 18, nameIndex := 9, descriptorIndex := 10, attributes := #[] }, { accessFlags := 2, nameIndex := 19, descriptorIndex := 10, attributes := #[] }])
  fields := #[{ name := "name", type := (.object "java/lang/String"), accessFlags := 18, slot := 0, constantValue := 0 }, { name := "ordinal", type := .int, accessFlags := 18, slot := 1, constantValue := 0 }, { name := "hash", type := .int, accessFlags := 2, slot := 2, constantValue := 0 }]
  methods := #[]
  instanceTypes := #[(.object "java/lang/String"), .int, .int]
  staticTypes := #[]
  resolved := Array.replicate 204 none
  statics := none }

def pool6 : Array CpInfo := pool [(1, .class_ 2), (0, u "kasane/model/NatType"), (2, u "UNKNOWN"), (0, u "Lkasane/model/NatType;"), (2, u "GLOBAL"), (0, .fieldref 1 11), (0, .nameAndType 12 6), (0, u "CONE_NAT"), (0, .fieldref 1 14), (0, .nameAndType 15 6), (0, u "SYMMETRIC_NAT"), (2, u "$VALUES"), (0, u "[Lkasane/model/NatType;"), (6, .class_ 28), (1, u "java/lang/Enum"), (8, u "label"), (0, u "Ljava/lang/String;"), (26, u "isBehindNat"), (0, u "()Z")] 8

def k6c0 : Code := { maxStack := 2, maxLocals := 1, code := prog_111_method_4_code, exceptionTable := #[], attributes := #[] }
def k6m0 : Method := { name := "isBehindNat", desc := "()Z", sig := { parameters := [], returnType := some .boolean }, accessFlags := 1, code := some k6c0 }
/-- kasane/model/NatType -/
def k6 : Class := { plain "kasane/model/NatType" (some 5) with
  accessFlags := 16433
  interfaces := #[]
  cf := some (fileOf pool6 1 #[] #[{ accessFlags := 1, nameIndex := 65, descriptorIndex := 66, attributes := #[] }] 16433 26 #[] #[{ accessFlags := 16409, nameIndex := 5, descriptorIndex := 6, attributes := #[] }, { accessFlags := 16409, nameIndex := 9, descriptorIndex := 6, attributes := #[] }, { accessFlags := 16409, nameIndex := 12, descriptorIndex := 6, attributes := #[] }, { accessFlags := 16409, nameIndex := 15, descriptorIndex := 6, attributes := #[] }, { accessFlags := 18, nameIndex := 37, descriptorIndex := 38, attributes := #[] }, { accessFlags := 4122, nameIndex := 18, descriptorIndex := 19, attributes := #[] }])
  fields := #[{ name := "UNKNOWN", type := (.object "kasane/model/NatType"), accessFlags := 16409, slot := 0, constantValue := 0 }, { name := "GLOBAL", type := (.object "kasane/model/NatType"), accessFlags := 16409, slot := 1, constantValue := 0 }, { name := "CONE_NAT", type := (.object "kasane/model/NatType"), accessFlags := 16409, slot := 2, constantValue := 0 }, { name := "SYMMETRIC_NAT", type := (.object "kasane/model/NatType"), accessFlags := 16409, slot := 3, constantValue := 0 }, { name := "label", type := (.object "java/lang/String"), accessFlags := 18, slot := 3, constantValue := 0 }, { name := "$VALUES", type := (.array (.object "kasane/model/NatType")), accessFlags := 4122, slot := 4, constantValue := 0 }]
  methods := #[k6m0]
  instanceTypes := #[(.object "java/lang/String"), .int, .int, (.object "java/lang/String")]
  staticTypes := #[(.object "kasane/model/NatType"), (.object "kasane/model/NatType"), (.object "kasane/model/NatType"), (.object "kasane/model/NatType"), (.array (.object "kasane/model/NatType"))]
  resolved := Array.replicate 75 none
  statics := some 0 }

def pool7 : Array CpInfo := pool [(1, u "java/lang/Cloneable"), (0, .class_ 1), (0, u "java/lang/Object"), (0, .class_ 3)] 3

/-- java/lang/Cloneable -/
def k7 : Class := { plain "java/lang/Cloneable" (some 0) with
  accessFlags := 1537
  interfaces := #[]
  cf := some (fileOf pool7 2 #[] #[] 1537 4 #[] #[])
  fields := #[]
  methods := #[]
  instanceTypes := #[]
  staticTypes := #[]
  resolved := Array.replicate 8 none
  statics := none }

/-- the primitive byte -/
def k8 : Class := { plain "byte" none with kind := .primitive 'B', accessFlags := 0x411 }
/-- [B -/
def k9 : Class := { plain "[B" (some 0) with kind := .array 8 .byte, interfaces := #[7, 4], accessFlags := 1041 }

/-- the primitive int -/
def k10 : Class := { plain "int" none with kind := .primitive 'I', accessFlags := 0x411 }
/-- [I -/
def k11 : Class := { plain "[I" (some 0) with kind := .array 10 .int, interfaces := #[7, 4], accessFlags := 1041 }

def heap : Heap := #[{ cls := 6, slots := #[.ref 1, .ref 4, .ref 2, .ref 3, .null], vm := .statics 6 },
  { cls := 6, slots := #[.null, .int 0, .int 0, .null], vm := .none },
  { cls := 6, slots := #[.null, .int 2, .int 0, .null], vm := .none },
  { cls := 6, slots := #[.null, .int 3, .int 0, .null], vm := .none },
  { cls := 6, slots := #[.null, .int 1, .int 0, .null], vm := .none }]
def classes : Array Class := #[k0, k1, k2, k3, k4, k5, k6, k7, k8, k9, k10, k11]
def interned : List (Array UInt16 × Addr) := []
def slotsUsed : Nat := 21
def theMethod : MethodId := ⟨1, 1⟩
def args0 : Array Value := #[.int 5]
def aboutOver (below : List Frame) : State where
  vm := { classes := classes, interned := interned.toArray }
  heap := heap
  slotsUsed := slotsUsed
  threads := #[{ frames := .invoking theMethod args0 :: below }]
def below0 : List Frame := [.native { method := ⟨0, 0⟩, args := #[] }]
def about1 : State := aboutOver below0
def p0 : Program := .bare "" "" ""
def e0 : Env := launch0.env 0 0 0
theorem w_frames : about1.frames = Frame.invoking theMethod args0 :: below0 := rfl
set_option maxRecDepth 65536 in
theorem w_args : argsFit about1.vm theMethod args0 = true := by decide +kernel
set_option maxRecDepth 65536 in
theorem w_heap : heapFits about1 = true := by decide +kernel
set_option maxRecDepth 65536 in
theorem w_runnable : about1.curStatus? = some .runnable := by decide +kernel
set_option maxRecDepth 65536 in
theorem w_alone : about1.alone = true := by decide +kernel
set_option maxRecDepth 65536 in
theorem w_named : about1.methodNamed? x = some theMethod := by decide +kernel
set_option maxRecDepth 65536 in
theorem w_hears : about1.hears theMethod below0 = true := by decide +kernel
set_option maxRecDepth 65536 in
theorem w_ripe : about1.ripe theMethod args0 below0 = true := by decide +kernel
theorem w_running : about1.status = .running := rfl
set_option maxRecDepth 65536 in
theorem w_room : about1.hasRoom e0.platform room_1 = true :=
  launch0.hasRoom_least _ room_1 (by decide +kernel) (by decide +kernel) (by decide +kernel) (by decide +kernel) (by decide +kernel) (by decide +kernel)
theorem allAtoms_all (ts : List Jvm.Cond) (a : Array Jvm.Value) (st : Jvm.State) : (allAtoms ts).before a st = ts.all (fun c => c.before a st) := by
  induction ts with
  | nil => rfl
  | cons c t ih =>
    show (Jvm.Cond.and c (allAtoms t)).before a st = _
    rw [Jvm.Cond.before_and, ih, List.all_cons]
def words1 : List Jvm.Cond := Jvm.Cond.code x code maxLocals ret :: tables_1
/-- a 'code' word, met by the world's own term for the bytes: nothing is compared byte by byte -/
theorem code_word {y : MethodName} {bytes : ByteArray} {mx : Nat} {rt : Option FieldType} {a : Array Value} {s : State} {m : MethodId} {meth : Method} {c : Code} (h1 : s.methodNamed? y = some m) (h2 : s.vm.method? m = some meth) (h3 : meth.code = some c) (h4 : c.code = bytes)
    (h5 : (c.maxLocals == mx && c.exceptionTable.isEmpty && decide (c.maxStack ≤ mostOperands) && decide (meth.sig.returnType = rt) && !meth.locks && decide (parseMethodDescriptor y.desc = some meth.sig)) = true) : (Jvm.Cond.code y bytes mx rt).before a s = true := by
  simp only [Bool.and_eq_true, beq_iff_eq, Bool.not_eq_true', decide_eq_true_eq] at h5
  obtain ⟨⟨⟨⟨⟨g1, g2⟩, g3⟩, g4⟩, g5⟩, g6⟩ := h5
  simp [Cond.before, Cond.holds, Cond.value, h1, h2, h3, h4, g1, g2, g3, g4, g5, g6]
def isCode : Jvm.Cond → Bool
  | .code _ _ _ _ => true
  | _ => false
theorem all_split {L : List Jvm.Cond} {P : Jvm.Cond → Bool} (h1 : L.all (fun c => isCode c || P c) = true) (h2 : ∀ c ∈ L.filter isCode, P c = true) : L.all P = true := by
  refine List.all_eq_true.mpr fun c hc => ?_
  have h := List.all_eq_true.mp h1 c hc
  rcases Bool.eq_false_or_eq_true (isCode c) with hi | hi
  · exact h2 c (List.mem_filter.mpr ⟨hc, hi⟩)
  · simpa [hi] using h
set_option maxRecDepth 65536 in
theorem w_c0 : (Jvm.Cond.code x code maxLocals ret).before args0 about1 = true := code_word (m := ⟨1, 1⟩) (meth := k1m1) (c := k1c1) (by decide +kernel) rfl rfl rfl (by decide +kernel)
set_option maxRecDepth 65536 in
theorem w_c1 : (Jvm.Cond.code ({ cls := "kasane/model/NatType", name := "isBehindNat", desc := "()Z" } : Jvm.MethodName) prog_111_method_4_code (1 : Nat) (Option.some Jvm.ClassFile.FieldType.boolean)).before args0 about1 = true := code_word (m := ⟨6, 0⟩) (meth := k6m0) (c := k6c0) (by decide +kernel) rfl rfl rfl (by decide +kernel)
def codes1 : List Jvm.Cond := [Jvm.Cond.code x code maxLocals ret, Jvm.Cond.code ({ cls := "kasane/model/NatType", name := "isBehindNat", desc := "()Z" } : Jvm.MethodName) prog_111_method_4_code (1 : Nat) (Option.some Jvm.ClassFile.FieldType.boolean)]
set_option maxRecDepth 65536 in
theorem codes_eq : words1.filter isCode = codes1 := rfl
theorem w_codes : ∀ c ∈ words1.filter isCode, c.before args0 about1 = true := by
  rw [codes_eq]
  intro c hc
  simp only [codes1, List.mem_cons, List.not_mem_nil, or_false] at hc
  rcases hc with rfl | rfl
  · exact w_c0
  · exact w_c1
set_option maxRecDepth 65536 in
theorem w_t1 : words1.all (fun c => isCode c || c.before args0 about1) = true := by decide +kernel
theorem w_tables : (allAtoms (Jvm.Cond.code x code maxLocals ret :: tables_1)).before args0 about1 = true := by
  rw [allAtoms_all]
  show words1.all (fun c => c.before args0 about1) = true
  refine all_split ?_ w_codes
  rw [w_t1]
set_option maxRecDepth 65536 in
theorem w_case : (Jvm.Cond.and given_1 narrow_1).before args0 about1 = true := by decide +kernel
theorem w_applies : (headSpec (Jvm.Cond.code x code maxLocals ret :: tables_1) room_1).applies x e0.platform about1 = true :=
  (Spec.applies_iff w_frames).mpr ⟨w_running, w_runnable, w_alone, w_named, w_hears, w_ripe, w_room, w_tables⟩
theorem atStart : AtStart classFile x code maxLocals ret World_1 tables_1 room_1 Calls_1 rest_1 Pre_1 launch0 p0 e0 about1 theMethod args0 below0 :=
  ⟨lists_1, trivial, launch0.admits_env _ _ _, launch0.least_env, fairChoices_fair.cas, fairChoices_fair.clock, w_frames, w_args, w_heap, w_applies, trivial, trivial, w_case⟩
end start1
theorem witness_1 : WitnessClaimed_1 := ⟨start1.p0, start1.e0, start1.about1, start1.theMethod, start1.args0, start1.below0, start1.atStart⟩
end Jvm.Pilot.@@N@@
