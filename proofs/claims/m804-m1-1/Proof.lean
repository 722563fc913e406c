import JvmDerived
import JvmDerived.Pilot.@@N@@Statement
import JvmDerived.Pilot.@@N@@Code
set_option linter.unusedVariables false
set_option linter.unusedSimpArgs false
namespace Jvm.OwnKit
open Sem ClassFile Op Lib Jvm.Stand Jvm.Free Jvm.LawKit Jvm.RoadKit
/-- from the frame g over T the run ends, and what it leaves is Q's -/
def Go (p : Program) (e : Env) (below : List Frame) (s : State) (Q : Option Value → Heap → List Loc → Prop) (C S : Nat) (T : State) (g : JFrame) : Prop :=
  ∃ s₂ o, Steps p.tables e below (T.setTop g) s₂ ∧ s₂.status = .running ∧ Ended s₂ below o ∧ ∃ v L, o = .returned v ∧ Q v s₂.heap L ∧ FrameEnd s o s₂ L C S
section OwnGo
variable {p : Program} {l : Launch} {e : Env} {R : Room} {s : State} {m : MethodId} {args : Array Value} {below : List Frame} {meth : Method} {c : Code} {T T' : State} {locs : List Loc} {cells slots : Nat} {Q : Option Value → Heap → List Loc → Prop} {C S : Nat} {g g' : JFrame}
theorem Go.st (h : ∀ t, Steps p.tables e below (T'.setTop g') t → Steps p.tables e below (T.setTop g) t) (k : Go p e below s Q C S T' g') : Go p e below s Q C S T g := by
  obtain ⟨s₂, o, h1, h2⟩ := k
  exact ⟨s₂, o, h _ h1, h2⟩
theorem Go.eq (q : g = g') (k : Go p e below s Q C S T g') : Go p e below s Q C S T g := q ▸ k
theorem Go.retV (X : Stand p l e R s m args below meth c T locs cells slots) (hx : p.tables.exec = Jvm.exec) (hlk : meth.locks = false) {pc : Nat} {Ls : Array Slot} {w : Value} {t : FieldType} {i : Instr} {rest : List Value} (hret : meth.sig.returnType = some t) (hn : narrow t w = w)
    (hi : (i = .ireturn ∧ (t = .int ∨ t = .boolean ∨ t = .byte ∨ t = .char ∨ t = .short) ∧ ∃ z, w = .int z) ∨ (i = .lreturn ∧ t = .long ∧ ∃ z, w = .long z) ∨ (i = .dreturn ∧ t = .double ∧ ∃ z, w = .double z) ∨ (i = .freturn ∧ t = .float ∧ ∃ z, w = .float z) ∨ (i = .areturn ∧ t.isReference = true ∧ w.isRef = true))
    (hd : decode c.code pc = .ok (i, 1)) (hQ : Q (some w) T.heap locs) (hc : cells ≤ C) (hs : slots ≤ S) : Go p e below s Q C S T (mkF m pc Ls (w :: rest)) := by
  obtain ⟨fs, hr, hrun, hended, hW, hsame⟩ := X.leave (v := some w) (fun h => by rw [hret] at h; cases h) hlk
  exact ⟨_, _, retOut X hx hret hn hi hd hr, hrun, hended, _, _, rfl, hQ, ⟨_, rfl⟩, hW, hsame.mono hc hs⟩
theorem Go.retI (X : Stand p l e R s m args below meth c T locs cells slots) (hx : p.tables.exec = Jvm.exec) (hlk : meth.locks = false) {pc : Nat} {Ls : Array Slot} {z : Int32} {rest : List Value} (hret : meth.sig.returnType = some .int) (hd : decode c.code pc = .ok (.ireturn, 1)) (hQ : Q (some (.int z)) T.heap locs) (hc : cells ≤ C) (hs : slots ≤ S) : Go p e below s Q C S T (mkF m pc Ls (.int z :: rest)) :=
  Go.retV X hx hlk hret rfl (Or.inl ⟨rfl, Or.inl rfl, _, rfl⟩) hd hQ hc hs
theorem Go.retZ (X : Stand p l e R s m args below meth c T locs cells slots) (hx : p.tables.exec = Jvm.exec) (hlk : meth.locks = false) {pc : Nat} {Ls : Array Slot} {z : Int32} {rest : List Value} (hret : meth.sig.returnType = some .boolean) (hd : decode c.code pc = .ok (.ireturn, 1)) (hn : narrow .boolean (.int z) = .int z) (hQ : Q (some (.int z)) T.heap locs) (hc : cells ≤ C) (hs : slots ≤ S) : Go p e below s Q C S T (mkF m pc Ls (.int z :: rest)) :=
  Go.retV X hx hlk hret hn (Or.inl ⟨rfl, Or.inr (Or.inl rfl), _, rfl⟩) hd hQ hc hs
theorem Go.retB (X : Stand p l e R s m args below meth c T locs cells slots) (hx : p.tables.exec = Jvm.exec) (hlk : meth.locks = false) {pc : Nat} {Ls : Array Slot} {z : Int32} {rest : List Value} (hret : meth.sig.returnType = some .byte) (hd : decode c.code pc = .ok (.ireturn, 1)) (hn : narrow .byte (.int z) = .int z) (hQ : Q (some (.int z)) T.heap locs) (hc : cells ≤ C) (hs : slots ≤ S) : Go p e below s Q C S T (mkF m pc Ls (.int z :: rest)) :=
  Go.retV X hx hlk hret hn (Or.inl ⟨rfl, Or.inr (Or.inr (Or.inl rfl)), _, rfl⟩) hd hQ hc hs
theorem Go.retC (X : Stand p l e R s m args below meth c T locs cells slots) (hx : p.tables.exec = Jvm.exec) (hlk : meth.locks = false) {pc : Nat} {Ls : Array Slot} {z : Int32} {rest : List Value} (hret : meth.sig.returnType = some .char) (hd : decode c.code pc = .ok (.ireturn, 1)) (hn : narrow .char (.int z) = .int z) (hQ : Q (some (.int z)) T.heap locs) (hc : cells ≤ C) (hs : slots ≤ S) : Go p e below s Q C S T (mkF m pc Ls (.int z :: rest)) :=
  Go.retV X hx hlk hret hn (Or.inl ⟨rfl, Or.inr (Or.inr (Or.inr (Or.inl rfl))), _, rfl⟩) hd hQ hc hs
theorem Go.retJ (X : Stand p l e R s m args below meth c T locs cells slots) (hx : p.tables.exec = Jvm.exec) (hlk : meth.locks = false) {pc : Nat} {Ls : Array Slot} {z : Int64} {rest : List Value} (hret : meth.sig.returnType = some .long) (hd : decode c.code pc = .ok (.lreturn, 1)) (hQ : Q (some (.long z)) T.heap locs) (hc : cells ≤ C) (hs : slots ≤ S) : Go p e below s Q C S T (mkF m pc Ls (.long z :: rest)) :=
  Go.retV X hx hlk hret rfl (Or.inr (Or.inl ⟨rfl, rfl, _, rfl⟩)) hd hQ hc hs
theorem Go.retD (X : Stand p l e R s m args below meth c T locs cells slots) (hx : p.tables.exec = Jvm.exec) (hlk : meth.locks = false) {pc : Nat} {Ls : Array Slot} {z : UInt64} {rest : List Value} (hret : meth.sig.returnType = some .double) (hd : decode c.code pc = .ok (.dreturn, 1)) (hQ : Q (some (.double z)) T.heap locs) (hc : cells ≤ C) (hs : slots ≤ S) : Go p e below s Q C S T (mkF m pc Ls (.double z :: rest)) :=
  Go.retV X hx hlk hret rfl (Or.inr (Or.inr (Or.inl ⟨rfl, rfl, _, rfl⟩))) hd hQ hc hs
theorem own_nar_ref {t : FieldType} {w : Value} (hw : w.isRef = true) : narrow t w = w := by
  rcases ref_cases hw with rfl | ⟨_, rfl⟩ <;> cases t <;> rfl
theorem Go.retA (X : Stand p l e R s m args below meth c T locs cells slots) (hx : p.tables.exec = Jvm.exec) (hlk : meth.locks = false) {pc : Nat} {Ls : Array Slot} {w : Value} {t : FieldType} {rest : List Value} (hret : meth.sig.returnType = some t) (ht : t.isReference = true) (hw : w.isRef = true) (hd : decode c.code pc = .ok (.areturn, 1)) (hQ : Q (some w) T.heap locs) (hc : cells ≤ C) (hs : slots ≤ S) : Go p e below s Q C S T (mkF m pc Ls (w :: rest)) :=
  Go.retV X hx hlk hret (own_nar_ref hw) (Or.inr (Or.inr (Or.inr (Or.inr ⟨rfl, ht, hw⟩)))) hd hQ hc hs
theorem Go.ret0 (X : Stand p l e R s m args below meth c T locs cells slots) (hx : p.tables.exec = Jvm.exec) (hlk : meth.locks = false) {pc : Nat} {Ls : Array Slot} (hret : meth.sig.returnType = none) (hd : decode c.code pc = .ok (.return_, 1)) (hQ : Q none T.heap locs) (hc : cells ≤ C) (hs : slots ≤ S) : Go p e below s Q C S T (mkF m pc Ls []) := by
  obtain ⟨fs, hr, hrun, hended, hW, hsame⟩ := X.leave (v := none) (fun _ => rfl) hlk
  exact ⟨_, _, X.returnOut hx hret hd hr, hrun, hended, _, _, rfl, hQ, ⟨_, rfl⟩, hW, hsame.mono hc hs⟩
end OwnGo
/-- a proposition as Java's boolean -/
def b2i (P : Prop) [Decidable P] : Int32 := if P then 1 else 0
theorem b2i_pos {P : Prop} [Decidable P] (h : P) : b2i P = 1 := if_pos h
theorem b2i_neg {P : Prop} [Decidable P] (h : ¬ P) : b2i P = 0 := if_neg h
theorem b2i_ne {P : Prop} [Decidable P] (h : P) : ¬ b2i P = 0 := by rw [b2i_pos h]; decide
theorem b2i_zero {P : Prop} [Decidable P] (h : ¬ P) : b2i P = 0 := b2i_neg h
theorem own_b2i_t {P : Prop} [Decidable P] (h : P) : some (Value.int 1) = some (Value.int (b2i P)) := by rw [b2i_pos h]
theorem own_b2i_f {P : Prop} [Decidable P] (h : ¬ P) : some (Value.int 0) = some (Value.int (b2i P)) := by rw [b2i_neg h]
theorem own_nb (y : Int32) : nar .byte (y.toInt8.toInt32) = y.toInt8.toInt32 := by
  show y.toInt8.toInt32.toInt8.toInt32 = y.toInt8.toInt32
  simp
theorem own_nc (y : Int32) : nar .char (y.toUInt32.toUInt16.toUInt32.toInt32) = y.toUInt32.toUInt16.toUInt32.toInt32 := by
  show (y.toUInt32.toUInt16.toUInt32.toInt32).toUInt32.toUInt16.toUInt32.toInt32 = y.toUInt32.toUInt16.toUInt32.toInt32
  rw [UInt32.toUInt32_toInt32, UInt16.toUInt16_toUInt32]
theorem own_nbv (y : Int32) : narrow .byte (.int (y.toInt8.toInt32)) = .int (y.toInt8.toInt32) := congrArg Value.int (own_nb y)
theorem own_and1 (a : Int32) : a &&& (1 : Int32) = (0 : Int32) ∨ a &&& (1 : Int32) = (1 : Int32) := and_one a
theorem own_and3 (a : Int32) : a &&& (3 : Int32) = (0 : Int32) ∨ a &&& (3 : Int32) = (1 : Int32) ∨ a &&& (3 : Int32) = (2 : Int32) ∨ a &&& (3 : Int32) = (3 : Int32) := by
  have e := c_mask a 3 2 (by decide) (by decide)
  have h : (a &&& (3 : Int32)).toInt = 0 ∨ (a &&& (3 : Int32)).toInt = 1 ∨ (a &&& (3 : Int32)).toInt = 2 ∨ (a &&& (3 : Int32)).toInt = 3 := by omega
  rcases h with h | h | h | h
  · exact Or.inl (Int32.toInt_inj.mp (h.trans (by decide)))
  · exact Or.inr (Or.inl (Int32.toInt_inj.mp (h.trans (by decide))))
  · exact Or.inr (Or.inr (Or.inl (Int32.toInt_inj.mp (h.trans (by decide)))))
  · exact Or.inr (Or.inr (Or.inr (Int32.toInt_inj.mp (h.trans (by decide)))))
theorem own_ord {s : State} {args : Array Value} {t : Term} {a : Addr} {C n d : String} {k : Int32} (ev : t.eval args s none [] s = some (.ref a)) (h : (Jvm.Cond.eq (Term.field t C n d) (Term.int k)).value args s none s [] = some true) : Fld s s.heap a C n d (.int k) := by
  obtain ⟨u, w, hu, hw, k1, k2⟩ := cmp_v (Or.inl h)
  have hw' : (Term.int k).eval args s none [] s = some (.int k) := Term.int_eval k
  cases hw.symm.trans hw'
  obtain ⟨z, rfl⟩ : ∃ z, u = .int z := k2
  have hz : z = k := gotT (Cond.eq_ints hu hw') h
  subst hz
  exact Fld.start ((fld_at ev).symm.trans hu)
section OwnBounds
variable {c a b : Int32} {n : Int}
theorem own_i1 (h : c < a) (q : a.toInt ≤ b.toInt) : c < b := by rw [Int32.lt_iff_toInt_lt] at *; omega
theorem own_i2 (h : ¬ a < c) (q : a.toInt < b.toInt) : c < b := by rw [Int32.lt_iff_toInt_lt] at *; omega
theorem own_i3 (h : ¬ c < a) (q : b.toInt ≤ a.toInt) : ¬ c < b := by rw [Int32.lt_iff_toInt_lt] at *; omega
theorem own_i4 (h : a < c) (q : b.toInt ≤ a.toInt + 1) : ¬ c < b := by rw [Int32.lt_iff_toInt_lt] at *; omega
theorem own_j1 (h : c < a) (q : a.toInt ≤ b.toInt + 1) : ¬ b < c := by rw [Int32.lt_iff_toInt_lt] at *; omega
theorem own_j2 (h : ¬ a < c) (q : a.toInt ≤ b.toInt) : ¬ b < c := by rw [Int32.lt_iff_toInt_lt] at *; omega
theorem own_j3 (h : ¬ c < a) (q : b.toInt < a.toInt) : b < c := by rw [Int32.lt_iff_toInt_lt] at *; omega
theorem own_j4 (h : a < c) (q : b.toInt ≤ a.toInt) : b < c := by rw [Int32.lt_iff_toInt_lt] at *; omega
theorem own_k1 (h : c < a) (q : a.toInt ≤ b.toInt) : ¬ c = b := fun e => by rw [e, Int32.lt_iff_toInt_lt] at h; omega
theorem own_k2 (h : ¬ a < c) (q : a.toInt < b.toInt) : ¬ c = b := fun e => by rw [e, Int32.lt_iff_toInt_lt] at h; omega
theorem own_k3 (h : ¬ c < a) (q : b.toInt < a.toInt) : ¬ c = b := fun e => by rw [e, Int32.lt_iff_toInt_lt] at h; omega
theorem own_k4 (h : a < c) (q : b.toInt ≤ a.toInt) : ¬ c = b := fun e => by rw [e, Int32.lt_iff_toInt_lt] at h; omega
theorem own_c1 (h : c < a) (q : a.toInt = n) : c.toInt < n := by rw [Int32.lt_iff_toInt_lt] at h; omega
theorem own_c2 (h : ¬ a < c) (q : a.toInt = n) : c.toInt ≤ n := by rw [Int32.lt_iff_toInt_lt] at h; omega
theorem own_c3 (h : ¬ c < a) (q : a.toInt = n) : n ≤ c.toInt := by rw [Int32.lt_iff_toInt_lt] at h; omega
theorem own_c4 (h : a < c) (q : a.toInt = n) : n < c.toInt := by rw [Int32.lt_iff_toInt_lt] at h; omega
theorem own_c5 (h : c = a) (q : a.toInt = n) : c.toInt = n := by rw [h]; exact q
theorem own_c6 (h : ¬ c = a) (q : a.toInt = n) : ¬ c.toInt = n := fun e => h (Int32.toInt_inj.mp (e.trans q.symm))
end OwnBounds
theorem own_addc {a b c d : Int32} (h : b + c = d) : (a + b) + c = a + d := by rw [Int32.add_assoc, h]
theorem own_byte_of {v : Value} (h : fits .byte v = true) : ∃ w, v = .int w ∧ narrow .byte (.int w) = .int w := by
  cases v with
  | int w =>
    refine ⟨w, rfl, ?_⟩
    obtain ⟨h1, h2⟩ := rng_byte h
    have e := c_i2b w
    have e1 : (-128 : Int32).toInt = -128 := by decide
    have e2 : (127 : Int32).toInt = 127 := by decide
    rw [Int32.lt_iff_toInt_lt, e1] at h1
    rw [Int32.lt_iff_toInt_lt, e2] at h2
    have e3 : w.toInt8.toInt32 = w := Int32.toInt_inj.mp (by omega)
    exact congrArg Value.int e3
  | _ => simp [fits] at h
theorem own_arv_nostat {Z : State} {h : Heap} {a : Addr} {k : ClassId} {ty : FieldType} {z : Int32} {vs : List Value} {dv : Value} (F : Arv Z h a k ty z vs dv) : ∀ cell : Cell, h[a]? = some cell → cell.vm.isStatics = false := by
  obtain ⟨c, A, -⟩ := F
  intro cell hc
  cases A.1.symm.trans hc
  exact A.plain
theorem own_selP {s : State} {args : Array Value} {y y' : MethodName} (hsel : (Jvm.Cond.selects y'.cls y' y').before args s = true) (he : y.cls = y'.cls) (hp : s.PrivateAt y) (hi : (Jvm.Cond.instanceMethod y).before args s = true) (hy : y.cls ≠ "java/lang/invoke/MethodHandle" ∧ y.cls ≠ "java/lang/invoke/VarHandle") : (Jvm.Cond.selects y.cls y y).before args s = true := by
  obtain ⟨c2, r2, m2, -, -, q3, -, kP, hkP, hkPi⟩ := Cond.selects_spec hsel
  exact Jvm.Stand.selects_self_of_private (by rw [he]; exact findClass_of_methodNamed q3) hkP hkPi hp hi hy
theorem own_irr {a : Int32} : ¬ (a < a) := Int32.lt_irrefl
theorem own_irrL {a : Int64} : ¬ (a < a) := Int64.lt_irrefl
theorem own_sta_keep {Z : State} {h h' : Heap} {C n d : String} {v : Value} {ws : List Addr} (F : Sta Z h C n d v) (K : Keep h h' ws) (q : ∀ x ∈ ws, ∀ cell : Cell, h[x]? = some cell → cell.vm.isStatics = false) : Sta Z h' C n d v := by
  obtain ⟨cf, i, k, f, st, cell, h1, h2, h3, h4, h5, h6, h7⟩ := F
  refine ⟨cf, i, k, f, st, cell, h1, h2, h3, h4, K.2.1 _ _ h5 (fun hm => ?_), h6, h7⟩
  have := q _ hm _ h5
  rw [h6] at this
  cases this
end Jvm.OwnKit
namespace Jvm.OwnKit
open Sem ClassFile Op Lib Jvm.Stand Jvm.Free Jvm.LawKit Jvm.RoadKit
/-- Go for a body that may load String constants: the end may bear new pairs of the intern table, and the held constants stay true -/
def GoS (p : Program) (e : Env) (below : List Frame) (s : State) (Z : State) (EL : List (String × Nat)) (Q : Option Value → Heap → List Loc → Prop) (C S : Nat) (T : State) (g : JFrame) : Prop :=
  ∃ s₂ o, Steps p.tables e below (T.setTop g) s₂ ∧ s₂.status = .running ∧ Ended s₂ below o ∧ ∃ v L, o = .returned v ∧ Q v s₂.heap L ∧ CHr Z EL s.vm s.heap s₂.vm s₂.heap ∧ ReturnedEndW s o s₂ L C S
/-- what a walk bears beside its Stand over s.setVm vm -/
def OwnH (Z : State) (EL : List (String × Nat)) (s : State) (vm : Vm) (h : Heap) : Prop := (∃ n, s.Since vm n ∧ n ≤ h.size) ∧ CHr Z EL s.vm s.heap vm h
section OwnGoS
variable {p : Program} {l : Launch} {e : Env} {R : Room} {s : State} {m : MethodId} {args : Array Value} {below : List Frame} {meth : Method} {c : Code} {T T' U Z : State} {locs : List Loc} {cells slots : Nat} {Q : Option Value → Heap → List Loc → Prop} {C S : Nat} {g g' : JFrame} {EL : List (String × Nat)} {vm : Vm} {h h' : Heap} {a0 : Array Value} {ws : List Addr} {x : Addr}
theorem own_all1 {a : Cond} {L : List Cond} (h : a.before a0 Z = true) (k : ∀ d ∈ L, d.before a0 Z = true) : ∀ d ∈ a :: L, d.before a0 Z = true := fun d q => by
  rcases List.mem_cons.mp q with rfl | q
  · exact h
  · exact k d q
theorem OwnH.chv (H : OwnH Z EL s vm h) : CHv Z EL vm h := H.2.1
theorem OwnH.start (e0 : s.heap = h) (H : CHv Z EL s.vm h) : OwnH Z EL s s.vm h := by
  subst e0
  exact ⟨⟨_, (State.WarmedH.refl s).since _, Nat.le_refl _⟩, CHr.refl H⟩
theorem OwnH.ext (H : OwnH Z EL s vm h) (E : Ext h h') : OwnH Z EL s vm h' := by
  obtain ⟨⟨n, h1, h2⟩, h3⟩ := H
  exact ⟨⟨n, h1, Nat.le_trans h2 E.1⟩, h3.trans (CHr.ext E h3.1)⟩
theorem OwnH.keep (H : OwnH Z EL s vm h) (K : Keep h h' ws) (hs : ∀ y ∈ ws, Safe Z EL vm h y) : OwnH Z EL s vm h' := by
  obtain ⟨⟨n, h1, h2⟩, h3⟩ := H
  exact ⟨⟨n, h1, Nat.le_trans h2 K.1⟩, h3.trans (CHr.keep K hs h3.1)⟩
theorem OwnH.wr {sl : Nat} {v : Value} (H : OwnH Z EL s vm h) (W : Wr h h' x sl v) (hs : Safe Z EL vm h x) : OwnH Z EL s vm h' := by
  obtain ⟨⟨n, h1, h2⟩, h3⟩ := H
  exact ⟨⟨n, h1, Nat.le_trans h2 (Nat.le_of_eq W.size.symm)⟩, h3.trans (CHr.wr W hs h3.1)⟩
theorem OwnH.next {vm' : Vm} {k : Nat} (H : OwnH Z EL s vm h) (hS : s.Since vm' k) (hk : k ≤ h'.size) (A : CHr Z EL vm h vm' h') : OwnH Z EL s vm' h' := ⟨⟨k, hS, hk⟩, H.2.trans A⟩
theorem OwnH.call {own : String} (H : OwnH Z EL s vm h) (eT : T.heap = h) (X : Stand p l e R ((s.setVm vm).setVm U.vm) m args below meth c U locs cells slots) (h2 : (s.setVm vm).Since U.vm U.heap.size) (g : T.heap.size ≤ U.heap.size) (hZ : Z.Warmed39 (s.setVm vm).vm) (hown : (s.setVm vm).vm.findClass own = some m.cls) (A : CHr Z EL vm h U.vm U.heap) :
    Stand p l e R (s.setVm U.vm) m args below meth c U locs cells slots ∧ OwnH Z EL s U.vm U.heap ∧ Z.Warmed39 (s.setVm U.vm).vm ∧ (s.setVm U.vm).vm.findClass own = some m.cls := by
  obtain ⟨⟨n, h1, h3⟩, h4⟩ := H
  subst eT
  obtain ⟨k1, k2, k3, k4⟩ := rebS h1 (Nat.le_trans h3 (Nat.le_refl _)) X h2 g hZ hown
  exact ⟨k1, ⟨⟨_, k2, Nat.le_refl _⟩, h4.trans A⟩, k3, k4⟩
theorem GoS.st (h : ∀ t, Steps p.tables e below (T'.setTop g') t → Steps p.tables e below (T.setTop g) t) (k : GoS p e below s Z EL Q C S T' g') : GoS p e below s Z EL Q C S T g := by
  obtain ⟨s₂, o, h1, h2⟩ := k
  exact ⟨s₂, o, h _ h1, h2⟩
theorem GoS.eq (q : g = g') (k : GoS p e below s Z EL Q C S T g') : GoS p e below s Z EL Q C S T g := q ▸ k
theorem GoS.retV (hZ : Z.Warmed39 (s.setVm vm).vm) (hEL : EW Z a0 EL) (H : OwnH Z EL s vm h) (eT : T.heap = h) (X : Stand p l e R (s.setVm vm) m args below meth c T locs cells slots) (hx : p.tables.exec = Jvm.exec) (hlk : meth.locks = false) {pc : Nat} {Ls : Array Slot} {w : Value} {t : FieldType} {i : Instr} {rest : List Value} (hret : meth.sig.returnType = some t) (hn : narrow t w = w)
    (hi : (i = .ireturn ∧ (t = .int ∨ t = .boolean ∨ t = .byte ∨ t = .char ∨ t = .short) ∧ ∃ z, w = .int z) ∨ (i = .lreturn ∧ t = .long ∧ ∃ z, w = .long z) ∨ (i = .dreturn ∧ t = .double ∧ ∃ z, w = .double z) ∨ (i = .freturn ∧ t = .float ∧ ∃ z, w = .float z) ∨ (i = .areturn ∧ t.isReference = true ∧ w.isRef = true))
    (hd : decode c.code pc = .ok (i, 1)) (hQ : Q (some w) T.heap locs) (hc : cells ≤ C) (hs : slots ≤ S) : GoS p e below s Z EL Q C S T (mkF m pc Ls (w :: rest)) := by
  subst eT
  obtain ⟨⟨n, h1, h3⟩, h4⟩ := H
  have hCH := h4.trans (CHv.at X hZ hEL h4.1)
  obtain ⟨fs, hr, hrun, hended, a1, a2, a3, a4⟩ := X.leaveW h1 h3 (v := some w) (fun h => by rw [hret] at h; cases h) hlk
  exact ⟨_, _, retOut X hx hret hn hi hd hr, hrun, hended, _, _, rfl, hQ, hCH, a1, a2, a3, a4.mono hc hs⟩
theorem GoS.retI (hZ : Z.Warmed39 (s.setVm vm).vm) (hEL : EW Z a0 EL) (H : OwnH Z EL s vm h) (eT : T.heap = h) (X : Stand p l e R (s.setVm vm) m args below meth c T locs cells slots) (hx : p.tables.exec = Jvm.exec) (hlk : meth.locks = false) {pc : Nat} {Ls : Array Slot} {z : Int32} {rest : List Value} (hret : meth.sig.returnType = some .int) (hd : decode c.code pc = .ok (.ireturn, 1)) (hQ : Q (some (.int z)) T.heap locs) (hc : cells ≤ C) (hs : slots ≤ S) : GoS p e below s Z EL Q C S T (mkF m pc Ls (.int z :: rest)) :=
  GoS.retV hZ hEL H eT X hx hlk hret rfl (Or.inl ⟨rfl, Or.inl rfl, _, rfl⟩) hd hQ hc hs
theorem GoS.retZ (hZ : Z.Warmed39 (s.setVm vm).vm) (hEL : EW Z a0 EL) (H : OwnH Z EL s vm h) (eT : T.heap = h) (X : Stand p l e R (s.setVm vm) m args below meth c T locs cells slots) (hx : p.tables.exec = Jvm.exec) (hlk : meth.locks = false) {pc : Nat} {Ls : Array Slot} {z : Int32} {rest : List Value} (hret : meth.sig.returnType = some .boolean) (hd : decode c.code pc = .ok (.ireturn, 1)) (hn : narrow .boolean (.int z) = .int z) (hQ : Q (some (.int z)) T.heap locs) (hc : cells ≤ C) (hs : slots ≤ S) : GoS p e below s Z EL Q C S T (mkF m pc Ls (.int z :: rest)) :=
  GoS.retV hZ hEL H eT X hx hlk hret hn (Or.inl ⟨rfl, Or.inr (Or.inl rfl), _, rfl⟩) hd hQ hc hs
theorem GoS.retA (hZ : Z.Warmed39 (s.setVm vm).vm) (hEL : EW Z a0 EL) (H : OwnH Z EL s vm h) (eT : T.heap = h) (X : Stand p l e R (s.setVm vm) m args below meth c T locs cells slots) (hx : p.tables.exec = Jvm.exec) (hlk : meth.locks = false) {pc : Nat} {Ls : Array Slot} {w : Value} {t : FieldType} {rest : List Value} (hret : meth.sig.returnType = some t) (ht : t.isReference = true) (hw : w.isRef = true) (hd : decode c.code pc = .ok (.areturn, 1)) (hQ : Q (some w) T.heap locs) (hc : cells ≤ C) (hs : slots ≤ S) : GoS p e below s Z EL Q C S T (mkF m pc Ls (w :: rest)) :=
  GoS.retV hZ hEL H eT X hx hlk hret (own_nar_ref hw) (Or.inr (Or.inr (Or.inr (Or.inr ⟨rfl, ht, hw⟩)))) hd hQ hc hs
theorem GoS.ret0 (hZ : Z.Warmed39 (s.setVm vm).vm) (hEL : EW Z a0 EL) (H : OwnH Z EL s vm h) (eT : T.heap = h) (X : Stand p l e R (s.setVm vm) m args below meth c T locs cells slots) (hx : p.tables.exec = Jvm.exec) (hlk : meth.locks = false) {pc : Nat} {Ls : Array Slot} (hret : meth.sig.returnType = none) (hd : decode c.code pc = .ok (.return_, 1)) (hQ : Q none T.heap locs) (hc : cells ≤ C) (hs : slots ≤ S) : GoS p e below s Z EL Q C S T (mkF m pc Ls []) := by
  subst eT
  obtain ⟨⟨n, h1, h3⟩, h4⟩ := H
  have hCH := h4.trans (CHv.at X hZ hEL h4.1)
  obtain ⟨fs, hr, hrun, hended, a1, a2, a3, a4⟩ := X.leaveW h1 h3 (v := none) (fun _ => rfl) hlk
  exact ⟨_, _, X.returnOut hx hret hd hr, hrun, hended, _, _, rfl, hQ, hCH, a1, a2, a3, a4.mono hc hs⟩
end OwnGoS
end Jvm.OwnKit

namespace Jvm.Pilot.@@N@@
open Jvm Jvm.ClassFile Sem Op Lib Jvm.Free Jvm.Stand Jvm.LawKit Jvm.RoadKit Jvm.OwnKit Bundle Jvm.Pilot.@@N@@.Jvm.D
theorem ew1 {Z : State} {a0 : Array Value} (hw : ∀ d ∈ tables_1, d.before a0 Z = true) : EW Z a0 consts_1 := (EW.cons (hw _ (List.mem_of_getElem? (i := 74) rfl)) (by decide +kernel) EW.nil)
theorem ws1 {Z : State} {a0 : Array Value} (hw : ∀ d ∈ tables_1, d.before a0 Z = true) : ∀ d ∈ Bundle.stringAtoms, d.before a0 Z = true := (own_all1 (hw _ (List.mem_of_getElem? (i := 8) rfl)) (own_all1 (hw _ (List.mem_of_getElem? (i := 16) rfl)) (own_all1 (hw _ (List.mem_of_getElem? (i := 20) rfl)) (own_all1 (hw _ (List.mem_of_getElem? (i := 29) rfl)) (own_all1 (hw _ (List.mem_of_getElem? (i := 31) rfl)) (own_all1 (hw _ (List.mem_of_getElem? (i := 75) rfl)) (own_all1 (hw _ (List.mem_of_getElem? (i := 76) rfl)) (fun _ q => nomatch q))))))))
theorem d3_0 : decode jdk_43_method_3_code 0 = .ok (.iload_n 0, 1) := by decide +kernel
theorem d3_1 : decode jdk_43_method_3_code 1 = .ok (.sipush 255, 3) := by decide +kernel
theorem d3_4 : decode jdk_43_method_3_code 4 = .ok (.if_icmp .gt 7, 3) := by decide +kernel
theorem d3_11 : decode jdk_43_method_3_code 11 = .ok (.iconst 0, 1) := by decide +kernel
theorem d3_12 : decode jdk_43_method_3_code 12 = .ok (.ireturn, 1) := by decide +kernel
theorem d3_7 : decode jdk_43_method_3_code 7 = .ok (.iconst 1, 1) := by decide +kernel
theorem d3_8 : decode jdk_43_method_3_code 8 = .ok (.goto 4, 3) := by decide +kernel
theorem pn_0 : plainName "java/lang/StringLatin1" = true := by first | (simp [plainName, overriddenIn]; done) | decide +kernel
theorem ef_rmCan (m : MethodId) (ch : Int32) : entryFrame m #[(.int ch)] 1 = mkF m 0 #[.val (.int ch)] [] := by first | (simp [entryFrame, mkF, argsToLocals, Value.category]; done) | rfl
def QrmCan (Z : State) (ch : Int32) (h0 : Heap) (n0 : Nat) (rV : Option Value) (hE : Heap) (LE : List Loc) : Prop := rV = some (.int (b2i (¬ ((255 : Int32) < ch)))) ∧ Fr n0 LE ∧ hE = h0
set_option maxRecDepth 65536 in
set_option maxHeartbeats 40000000 in
theorem rmCan (l : Launch) (Z : State) (a0 : Array Value) (hw : ∀ d ∈ tables_1, d.before a0 Z = true) (ws : List Jvm.Cond) (ch : Int32) (h0 : Heap) (n0 : Nat) (Z0 : n0 ≤ h0.size) :
    MetFree l (⟨"java/lang/StringLatin1", "canEncode", "(C)Z"⟩ : MethodName) (head1 (Jvm.Cond.code (⟨"java/lang/StringLatin1", "canEncode", "(C)Z"⟩ : MethodName) jdk_43_method_3_code 1 (some .boolean) :: ws) ({ frames := 0, cells := 0, slots := 0, locals := 0 } : Room)) (fun aA UA => aA = #[(.int ch)] ∧ Z.Warmed39 UA.vm ∧ UA.heap = h0) (fun _ _ _ _ _ => True) (fun _ UA oA UB => ∃ rV LE, oA = .returned rV ∧ QrmCan Z ch h0 n0 rV UB.heap LE ∧ FrameEnd UA oA UB LE ({ frames := 0, cells := 0, slots := 0, locals := 0 } : Room).cells ({ frames := 0, cells := 0, slots := 0, locals := 0 } : Room).slots) := by
  refine MetFree.of_bodySF (plainFor_of_name pn_0) hisR ?_
  intro p e s m args below meth c s₁ Bd hml0 hP hK
  obtain ⟨rfl, hZ, hh⟩ := hP
  have hx := Bd.exec
  have hby := Bd.bytes
  have hml : c.maxLocals = 1 := hml0
  have hown : s.vm.findClass "java/lang/StringLatin1" = some m.cls := findClass_of_methodNamed Bd.named
  have hnm := (name_of_methodNamed Bd.named Bd.method).1
  have hlk := Bd.notSynchronized
  have X0 : Stand p l e ({ frames := 0, cells := 0, slots := 0, locals := 0 } : Room) s m #[(.int ch)] below meth c s₁ [] 0 0 := Stand.of_body Bd
  have e0 : s₁.heap = h0 := by rw [← hh, Bd.state]; rfl
  have N0 := Fr.nil n0
  show Go p e below s (QrmCan Z ch h0 n0) ({ frames := 0, cells := 0, slots := 0, locals := 0 } : Room).cells ({ frames := 0, cells := 0, slots := 0, locals := 0 } : Room).slots s₁ (entryFrame m #[(.int ch)] 1)
  refine Go.eq (ef_rmCan m ch) ?_
  show Go p e below s _ _ _ s₁ (mkF m 0 #[.val (.int ch)] [])
  refine Go.st (fun _ => XS.iloadN X0.here hx rfl (hb hby d3_0) rfl) ?_
  show Go p e below s _ _ _ s₁ (mkF m 1 #[.val (.int ch)] [(.int ch)])
  refine Go.st (fun _ => XS.sipush X0.here hx rfl (hb hby d3_1)) ?_
  show Go p e below s _ _ _ s₁ (mkF m 4 #[.val (.int ch)] [(.int (255 : Int32)), (.int ch)])
  by_cases hc_1 : (255 : Int32) < ch
  · refine Go.st (fun _ => XS.icmpYes X0.here hx rfl (pc0 := 4) (pc' := 11) rfl (hb hby d3_4) rfl (tlt hc_1).2.2.1 (by decide) (by decide)) ?_
    show Go p e below s _ _ _ s₁ (mkF m 11 #[.val (.int ch)] [])
    refine Go.st (fun _ => XS.iconst X0.here hx rfl (hb hby d3_11)) ?_
    show Go p e below s _ _ _ s₁ (mkF m 12 #[.val (.int ch)] [(.int (0 : Int32))])
    exact Go.retZ X0 hx hlk Bd.returns (hb hby d3_12) rfl (by rw [e0]; exact ⟨(own_b2i_f (not_not_intro hc_1)), N0, rfl⟩) (by decide) (by decide)
  · refine Go.st (fun _ => XS.icmpNo X0.here hx rfl (hb hby d3_4) rfl (flt hc_1).2.2.1) ?_
    show Go p e below s _ _ _ s₁ (mkF m 7 #[.val (.int ch)] [])
    refine Go.st (fun _ => XS.iconst X0.here hx rfl (hb hby d3_7)) ?_
    show Go p e below s _ _ _ s₁ (mkF m 8 #[.val (.int ch)] [(.int (1 : Int32))])
    refine Go.st (fun _ => XS.goto X0.here hx rfl (pc0 := 8) (pc' := 12) rfl (hb hby d3_8) (by decide) (by decide)) ?_
    show Go p e below s _ _ _ s₁ (mkF m 12 #[.val (.int ch)] [(.int (1 : Int32))])
    exact Go.retZ X0 hx hlk Bd.returns (hb hby d3_12) rfl (by rw [e0]; exact ⟨(own_b2i_t hc_1), N0, rfl⟩) (by decide) (by decide)
theorem d4_0 : decode jdk_43_method_46_code 0 = .ok (.iconst 1, 1) := by decide +kernel
theorem d4_1 : decode jdk_43_method_46_code 1 = .ok (.newarray .byte, 2) := by decide +kernel
theorem d4_3 : decode jdk_43_method_46_code 3 = .ok (.dup, 1) := by decide +kernel
theorem d4_4 : decode jdk_43_method_46_code 4 = .ok (.iconst 0, 1) := by decide +kernel
theorem d4_5 : decode jdk_43_method_46_code 5 = .ok (.iload_n 0, 1) := by decide +kernel
theorem d4_6 : decode jdk_43_method_46_code 6 = .ok (.i2b, 1) := by decide +kernel
theorem d4_7 : decode jdk_43_method_46_code 7 = .ok (.bastore, 1) := by decide +kernel
theorem d4_8 : decode jdk_43_method_46_code 8 = .ok (.areturn, 1) := by decide +kernel
theorem ef_rmTob (m : MethodId) (ch : Int32) : entryFrame m #[(.int ch)] 1 = mkF m 0 #[.val (.int ch)] [] := by first | (simp [entryFrame, mkF, argsToLocals, Value.category]; done) | rfl
def QrmTob (Z : State) (ch : Int32) (h0 : Heap) (n0 : Nat) (rV : Option Value) (hE : Heap) (LE : List Loc) : Prop := ∃ d : Addr, ∃ kd : ClassId, rV = some (.ref d) ∧ Fr n0 LE ∧ Keep h0 hE [] ∧ h0.size ≤ d ∧ n0 ≤ d ∧ Arv Z hE d kd .byte (1 : Int32) [(.int (ch.toInt8.toInt32))] (.int (0 : Int32))
set_option maxRecDepth 65536 in
set_option maxHeartbeats 40000000 in
theorem rmTob (l : Launch) (Z : State) (a0 : Array Value) (hw : ∀ d ∈ tables_1, d.before a0 Z = true) (ws : List Jvm.Cond) (ch : Int32) (h0 : Heap) (n0 : Nat) (Z0 : n0 ≤ h0.size) :
    MetFree l (⟨"java/lang/StringLatin1", "toBytes", "(C)[B"⟩ : MethodName) (head1 (Jvm.Cond.code (⟨"java/lang/StringLatin1", "toBytes", "(C)[B"⟩ : MethodName) jdk_43_method_46_code 1 (some (.array .byte)) :: ws) ({ frames := 0, cells := 1, slots := 1, locals := 0 } : Room)) (fun aA UA => aA = #[(.int ch)] ∧ Z.Warmed39 UA.vm ∧ UA.heap = h0) (fun _ _ _ _ _ => True) (fun _ UA oA UB => ∃ rV LE, oA = .returned rV ∧ QrmTob Z ch h0 n0 rV UB.heap LE ∧ FrameEnd UA oA UB LE ({ frames := 0, cells := 1, slots := 1, locals := 0 } : Room).cells ({ frames := 0, cells := 1, slots := 1, locals := 0 } : Room).slots) := by
  refine MetFree.of_bodySF (plainFor_of_name pn_0) hisR ?_
  intro p e s m args below meth c s₁ Bd hml0 hP hK
  obtain ⟨rfl, hZ, hh⟩ := hP
  have hx := Bd.exec
  have hby := Bd.bytes
  have hml : c.maxLocals = 1 := hml0
  have hown : s.vm.findClass "java/lang/StringLatin1" = some m.cls := findClass_of_methodNamed Bd.named
  have hnm := (name_of_methodNamed Bd.named Bd.method).1
  have hlk := Bd.notSynchronized
  have X0 : Stand p l e ({ frames := 0, cells := 1, slots := 1, locals := 0 } : Room) s m #[(.int ch)] below meth c s₁ [] 0 0 := Stand.of_body Bd
  have e0 : s₁.heap = h0 := by rw [← hh, Bd.state]; rfl
  have N0 := Fr.nil n0
  show Go p e below s (QrmTob Z ch h0 n0) ({ frames := 0, cells := 1, slots := 1, locals := 0 } : Room).cells ({ frames := 0, cells := 1, slots := 1, locals := 0 } : Room).slots s₁ (entryFrame m #[(.int ch)] 1)
  refine Go.eq (ef_rmTob m ch) ?_
  show Go p e below s _ _ _ s₁ (mkF m 0 #[.val (.int ch)] [])
  refine Go.st (fun _ => XS.iconst X0.here hx rfl (hb hby d4_0)) ?_
  show Go p e below s _ _ _ s₁ (mkF m 1 #[.val (.int ch)] [(.int (1 : Int32))])
  obtain ⟨T_1, h_1, kA_1, X_1, e_1, E_1, A_1, st_1⟩ := newP X0 hx hZ (hw _ (List.mem_of_getElem? (i := 20) rfl)) e0 (g := (mkF m 1 #[.val (.int ch)] [(.int (1 : Int32))])) rfl (hb hby d4_1) rfl (by decide) (cap := 1) (by decide) (by decide) (by decide) (by decide)
  obtain ⟨b_1, g_1⟩ : ∃ z, z = h0.size := ⟨_, rfl⟩
  rw [← g_1] at A_1 st_1
  refine Go.st st_1 ?_
  have gg_1 : n0 ≤ b_1 := Nat.le_trans Z0 (Nat.le_of_eq g_1.symm)
  have sz_1 : h0.size ≤ b_1 := Nat.le_trans (Keep.refl h0 []).1 (Nat.le_of_eq g_1.symm)
  have K_1 : Keep h0 h_1 [] := (Keep.refl h0 []).ext E_1
  have z_1 : n0 ≤ h_1.size := Nat.le_trans Z0 E_1.1
  have V_b_1 : Arv Z h_1 b_1 kA_1 .byte (1 : Int32) [(.int (0 : Int32))] (.int (0 : Int32)) := (Arv.new A_1 (by decide)).pad (pad_rep [] (.int (0 : Int32)) 1)
  show Go p e below s _ _ _ T_1 (mkF m 3 #[.val (.int ch)] [(.ref b_1)])
  refine Go.st (fun _ => XS.dup X_1.here hx rfl (hb hby d4_3) rfl rfl) ?_
  show Go p e below s _ _ _ T_1 (mkF m 4 #[.val (.int ch)] [(.ref b_1), (.ref b_1)])
  refine Go.st (fun _ => XS.iconst X_1.here hx rfl (hb hby d4_4)) ?_
  show Go p e below s _ _ _ T_1 (mkF m 5 #[.val (.int ch)] [(.int (0 : Int32)), (.ref b_1), (.ref b_1)])
  refine Go.st (fun _ => XS.iloadN X_1.here hx rfl (hb hby d4_5) rfl) ?_
  show Go p e below s _ _ _ T_1 (mkF m 6 #[.val (.int ch)] [(.int ch), (.int (0 : Int32)), (.ref b_1), (.ref b_1)])
  refine Go.st (fun _ => XS.i2b X_1.here hx rfl (hb hby d4_6) rfl) ?_
  show Go p e below s _ _ _ T_1 (mkF m 7 #[.val (.int ch)] [(.int (ch.toInt8.toInt32)), (.int (0 : Int32)), (.ref b_1), (.ref b_1)])
  obtain ⟨cl_2, Ar_2, q_2, S_2, M_2, H_2, G_2⟩ := id V_b_1
  have hin_2 : ¬ ((0 : Int32) < 0 ∨ cl_2.slots.size ≤ ((0 : Int32)).toNatClampNeg) := inb_of S_2 ⟨by decide, by decide⟩
  obtain ⟨T_2, h_2, X_2, e_2, W_2, st_2⟩ := stB X_1 hx hZ e_1 Ar_2 (j := (0 : Int32)) hin_2 (g := (mkF m 7 #[.val (.int ch)] [(.int (ch.toInt8.toInt32)), (.int (0 : Int32)), (.ref b_1), (.ref b_1)])) rfl rfl (hb hby d4_7)
  refine Go.st st_2 ?_
  rw [own_nb] at W_2
  have V_2 : Arv Z h_2 b_1 kA_1 .byte (1 : Int32) [(.int (ch.toInt8.toInt32))] (.int (0 : Int32)) := Arv.set Ar_2 q_2 S_2 M_2 H_2 G_2 (fits_nar_byte _) W_2 0 rfl (Nat.le_of_ble_eq_true rfl)
  have N_2 := Fr.snoc X_2 N0 gg_1
  have K_2 : Keep h0 h_2 [] := K_1.wr W_2 (Or.inr sz_1)
  have z_2 : n0 ≤ h_2.size := Nat.le_trans z_1 (Nat.le_of_eq W_2.size.symm)
  show Go p e below s _ _ _ T_2 (mkF m 8 #[.val (.int ch)] [(.ref b_1)])
  exact Go.retA X_2 hx hlk Bd.returns rfl rfl (hb hby d4_8) (by rw [e_2]; exact ⟨b_1, kA_1, rfl, N_2, K_2, sz_1, gg_1, V_2⟩) (by decide) (by decide)
theorem d5_0 : decode jdk_42_method_151_code 0 = .ok (.aload_n 0, 1) := by decide +kernel
theorem d5_1 : decode jdk_42_method_151_code 1 = .ok (.invokespecial 1, 3) := by decide +kernel
theorem d5_4 : decode jdk_42_method_151_code 4 = .ok (.aload_n 0, 1) := by decide +kernel
theorem d5_5 : decode jdk_42_method_151_code 5 = .ok (.aload_n 1, 1) := by decide +kernel
theorem d5_6 : decode jdk_42_method_151_code 6 = .ok (.putfield 9, 3) := by decide +kernel
theorem d5_9 : decode jdk_42_method_151_code 9 = .ok (.aload_n 0, 1) := by decide +kernel
theorem d5_10 : decode jdk_42_method_151_code 10 = .ok (.iload_n 2, 1) := by decide +kernel
theorem d5_11 : decode jdk_42_method_151_code 11 = .ok (.putfield 15, 3) := by decide +kernel
theorem d5_14 : decode jdk_42_method_151_code 14 = .ok (.return_, 1) := by decide +kernel
theorem pn_1 : plainName "java/lang/String" = true := by first | (simp [plainName, overriddenIn]; done) | decide +kernel
theorem ef_rmSi (m : MethodId) (a : Addr) (t : Addr) : entryFrame m #[(.ref a), (.ref t), (.int (0 : Int32))] 3 = mkF m 0 #[.val (.ref a), .val (.ref t), .val (.int (0 : Int32))] [] := by first | (simp [entryFrame, mkF, argsToLocals, Value.category]; done) | rfl
def QrmSi (Z : State) (a : Addr) (t : Addr) (h0 : Heap) (n0 : Nat) (rV : Option Value) (hE : Heap) (LE : List Loc) : Prop := rV = none ∧ Fr n0 LE ∧ Keep h0 hE [a] ∧ Exa Z hE a "java/lang/String" ∧ Fld Z hE a "java/lang/String" "value" "[B" (.ref t) ∧ Fld Z hE a "java/lang/String" "coder" "B" (.int (0 : Int32))
set_option maxRecDepth 65536 in
set_option maxHeartbeats 40000000 in
theorem rmSi (l : Launch) (Z : State) (a0 : Array Value) (hw : ∀ d ∈ tables_1, d.before a0 Z = true) (ws : List Jvm.Cond) (a : Addr) (t : Addr) (h0 : Heap) (n0 : Nat) (Z0 : n0 ≤ h0.size) (E_a : Exa Z h0 a "java/lang/String") (F_value_a : Fld Z h0 a "java/lang/String" "value" "[B" .null) (F_coder_a : Fld Z h0 a "java/lang/String" "coder" "B" (.int (0 : Int32))) (g_a : n0 ≤ a) :
    MetFree l (⟨"java/lang/String", "<init>", "([BB)V"⟩ : MethodName) (head1 (Jvm.Cond.code (⟨"java/lang/String", "<init>", "([BB)V"⟩ : MethodName) jdk_42_method_151_code 3 none :: ws) ({ frames := 1, cells := 0, slots := 0, locals := 12 } : Room)) (fun aA UA => aA = #[(.ref a), (.ref t), (.int (0 : Int32))] ∧ Z.Warmed39 UA.vm ∧ UA.heap = h0) (fun _ _ _ _ _ => True) (fun _ UA oA UB => ∃ rV LE, oA = .returned rV ∧ QrmSi Z a t h0 n0 rV UB.heap LE ∧ FrameEnd UA oA UB LE ({ frames := 1, cells := 0, slots := 0, locals := 12 } : Room).cells ({ frames := 1, cells := 0, slots := 0, locals := 12 } : Room).slots) := by
  refine MetFree.of_bodySF (plainFor_of_name pn_1) hisR ?_
  intro p e s m args below meth c s₁ Bd hml0 hP hK
  obtain ⟨rfl, hZ, hh⟩ := hP
  have hx := Bd.exec
  have hby := Bd.bytes
  have hml : c.maxLocals = 3 := hml0
  have hown : s.vm.findClass "java/lang/String" = some m.cls := findClass_of_methodNamed Bd.named
  have hnm := (name_of_methodNamed Bd.named Bd.method).1
  have hlk := Bd.notSynchronized
  have X0 : Stand p l e ({ frames := 1, cells := 0, slots := 0, locals := 12 } : Room) s m #[(.ref a), (.ref t), (.int (0 : Int32))] below meth c s₁ [] 0 0 := Stand.of_body Bd
  have e0 : s₁.heap = h0 := by rw [← hh, Bd.state]; rfl
  have N0 := Fr.nil n0
  show Go p e below s (QrmSi Z a t h0 n0) ({ frames := 1, cells := 0, slots := 0, locals := 12 } : Room).cells ({ frames := 1, cells := 0, slots := 0, locals := 12 } : Room).slots s₁ (entryFrame m #[(.ref a), (.ref t), (.int (0 : Int32))] 3)
  refine Go.eq (ef_rmSi m a t) ?_
  show Go p e below s _ _ _ s₁ (mkF m 0 #[.val (.ref a), .val (.ref t), .val (.int (0 : Int32))] [])
  refine Go.st (fun _ => XS.aloadN X0.here hx rfl (hb hby d5_0) rfl rfl) ?_
  show Go p e below s _ _ _ s₁ (mkF m 1 #[.val (.ref a), .val (.ref t), .val (.int (0 : Int32))] [(.ref a)])
  obtain ⟨T_1, X_1, e_1, st_1⟩ := initO X0 hx hZ hown (hw _ (List.mem_of_getElem? (i := 25) rfl)) (hw _ (List.mem_of_getElem? (i := 26) rfl)) (hw _ (List.mem_of_getElem? (i := 27) rfl)) e0 (g := (mkF m 1 #[.val (.ref a), .val (.ref t), .val (.int (0 : Int32))] [(.ref a)])) rfl (by rw [hml]; rfl) rfl (hb hby d5_1) (by decide) (W := 0) (by show 2 * 0 + _ ≤ _; exact Nat.le_of_eq rfl) (by decide)
  refine Go.st st_1 ?_
  show Go p e below s _ _ _ T_1 (mkF m 4 #[.val (.ref a), .val (.ref t), .val (.int (0 : Int32))] [])
  refine Go.st (fun _ => XS.aloadN X_1.here hx rfl (hb hby d5_4) rfl rfl) ?_
  show Go p e below s _ _ _ T_1 (mkF m 5 #[.val (.ref a), .val (.ref t), .val (.int (0 : Int32))] [(.ref a)])
  refine Go.st (fun _ => XS.aloadN X_1.here hx rfl (hb hby d5_5) rfl rfl) ?_
  show Go p e below s _ _ _ T_1 (mkF m 6 #[.val (.ref a), .val (.ref t), .val (.int (0 : Int32))] [(.ref t), (.ref a)])
  obtain ⟨T_2, h_2, X_2, e_2, W_2, st_2⟩ := putF X_1 hx hZ hown (host := "") (Or.inl (hw _ (List.mem_of_getElem? (i := 28) rfl))) Via.refl e_1 F_value_a E_a (Or.inr ⟨(hw _ (List.mem_of_getElem? (i := 29) rfl)), rfl, hnm⟩) (hw _ (List.mem_of_getElem? (i := 16) rfl)) (ty := (.array .byte)) (by decide) rfl rfl (g := (mkF m 6 #[.val (.ref a), .val (.ref t), .val (.int (0 : Int32))] [(.ref t), (.ref a)])) rfl rfl (hb hby d5_6)
  refine Go.st st_2 ?_
  have N_2 := Fr.snoc X_2 N0 g_a
  have K_2 : Keep h0 h_2 [a] := (Keep.refl h0 [a]).wr W_2 (Or.inl (List.mem_of_getElem? (i := 0) rfl))
  have z_2 : n0 ≤ h_2.size := Nat.le_trans Z0 (Nat.le_of_eq W_2.size.symm)
  have Fw_2 := F_value_a.same W_2
  show Go p e below s _ _ _ T_2 (mkF m 9 #[.val (.ref a), .val (.ref t), .val (.int (0 : Int32))] [])
  refine Go.st (fun _ => XS.aloadN X_2.here hx rfl (hb hby d5_9) rfl rfl) ?_
  show Go p e below s _ _ _ T_2 (mkF m 10 #[.val (.ref a), .val (.ref t), .val (.int (0 : Int32))] [(.ref a)])
  refine Go.st (fun _ => XS.iloadN X_2.here hx rfl (hb hby d5_10) rfl) ?_
  show Go p e below s _ _ _ T_2 (mkF m 11 #[.val (.ref a), .val (.ref t), .val (.int (0 : Int32))] [(.int (0 : Int32)), (.ref a)])
  have f_3 := (E_a.wr W_2)
  have f_4 := (F_coder_a.other W_2 (Or.inr (slot_ne (Or.inr (hw _ (List.mem_of_getElem? (i := 31) rfl))) (Or.inr (hw _ (List.mem_of_getElem? (i := 29) rfl))) (by decide) (t := .byte) (t' := (.array .byte)) (by decide) (by decide))))
  obtain ⟨T_5, h_5, X_5, e_5, W_5, st_5⟩ := putF X_2 hx hZ hown (host := "") (Or.inl (hw _ (List.mem_of_getElem? (i := 30) rfl))) Via.refl e_2 f_4 f_3 (Or.inr ⟨(hw _ (List.mem_of_getElem? (i := 31) rfl)), rfl, hnm⟩) (hw _ (List.mem_of_getElem? (i := 16) rfl)) (ty := .byte) (by decide) rfl rfl (g := (mkF m 11 #[.val (.ref a), .val (.ref t), .val (.int (0 : Int32))] [(.int (0 : Int32)), (.ref a)])) rfl rfl (hb hby d5_11)
  refine Go.st st_5 ?_
  have N_5 := Fr.snoc X_5 N_2 g_a
  have K_5 : Keep h0 h_5 [a] := K_2.wr W_5 (Or.inl (List.mem_of_getElem? (i := 0) rfl))
  have z_5 : n0 ≤ h_5.size := Nat.le_trans z_2 (Nat.le_of_eq W_5.size.symm)
  have Fw_5 := f_4.same W_5
  show Go p e below s _ _ _ T_5 (mkF m 14 #[.val (.ref a), .val (.ref t), .val (.int (0 : Int32))] [])
  have f_6 := (f_3.wr W_5)
  have f_7 := (Fw_2.other W_5 (Or.inr (slot_ne (Or.inr (hw _ (List.mem_of_getElem? (i := 29) rfl))) (Or.inr (hw _ (List.mem_of_getElem? (i := 31) rfl))) (by decide) (t := (.array .byte)) (t' := .byte) (by decide) (by decide))))
  exact Go.ret0 X_5 hx hlk Bd.returns (hb hby d5_14) (by rw [e_5]; exact ⟨rfl, N_5, K_5, f_6, f_7, Fw_5⟩) (by decide) (by decide)
theorem d2_0 : decode jdk_42_method_139_code 0 = .ok (.getstatic 38, 3) := by decide +kernel
theorem d2_3 : decode jdk_42_method_139_code 3 = .ok (.ifCond .eq 23, 3) := by decide +kernel
theorem d2_6 : decode jdk_42_method_139_code 6 = .ok (.iload_n 0, 1) := by decide +kernel
theorem d2_7 : decode jdk_42_method_139_code 7 = .ok (.invokestatic 1015, 3) := by decide +kernel
theorem pd_0 : parseMethodDescriptor "(C)Z" = some ⟨[.char], some .boolean⟩ := by decide +kernel
theorem d2_10 : decode jdk_42_method_139_code 10 = .ok (.ifCond .eq 16, 3) := by decide +kernel
theorem d2_13 : decode jdk_42_method_139_code 13 = .ok (.new 10, 3) := by decide +kernel
theorem d2_16 : decode jdk_42_method_139_code 16 = .ok (.dup, 1) := by decide +kernel
theorem d2_17 : decode jdk_42_method_139_code 17 = .ok (.iload_n 0, 1) := by decide +kernel
theorem d2_18 : decode jdk_42_method_139_code 18 = .ok (.invokestatic 1018, 3) := by decide +kernel
theorem pd_1 : parseMethodDescriptor "(C)[B" = some ⟨[.char], some (.array .byte)⟩ := by decide +kernel
theorem d2_21 : decode jdk_42_method_139_code 21 = .ok (.iconst 0, 1) := by decide +kernel
theorem d2_22 : decode jdk_42_method_139_code 22 = .ok (.invokespecial 209, 3) := by decide +kernel
theorem pd_2 : parseMethodDescriptor "([BB)V" = some ⟨[(.array .byte), .byte], none⟩ := by decide +kernel
theorem d2_25 : decode jdk_42_method_139_code 25 = .ok (.areturn, 1) := by decide +kernel
theorem ef_rmVo (m : MethodId) (ch : Int32) : entryFrame m #[(.int ch)] 1 = mkF m 0 #[.val (.int ch)] [] := by first | (simp [entryFrame, mkF, argsToLocals, Value.category]; done) | rfl
def QrmVo (Z : State) (ch : Int32) (cs : Int32) (h0 : Heap) (n0 : Nat) (rV : Option Value) (hE : Heap) (LE : List Loc) : Prop := ∃ b : Addr, ∃ d : Addr, ∃ kd : ClassId, rV = some (.ref b) ∧ Fr n0 LE ∧ Keep h0 hE [] ∧ h0.size ≤ b ∧ n0 ≤ b ∧ Exa Z hE b "java/lang/String" ∧ Fld Z hE b "java/lang/String" "value" "[B" (.ref d) ∧ Fld Z hE b "java/lang/String" "coder" "B" (.int (0 : Int32)) ∧ h0.size ≤ d ∧ n0 ≤ d ∧ Arv Z hE d kd .byte (1 : Int32) [(.int (ch.toInt8.toInt32))] (.int (0 : Int32)) ∧ b ≠ d
set_option maxRecDepth 65536 in
set_option maxHeartbeats 40000000 in
theorem rmVo (l : Launch) (Z : State) (a0 : Array Value) (hw : ∀ d ∈ tables_1, d.before a0 Z = true) (ws : List Jvm.Cond) (ch : Int32) (cs : Int32) (h0 : Heap) (n0 : Nat) (Z0 : n0 ≤ h0.size) (S_COMPACT_STRINGS : Sta Z h0 "java/lang/String" "COMPACT_STRINGS" "Z" (.int cs)) (hcs : ¬ (cs = (0 : Int32))) (hch : ¬ ((255 : Int32) < ch)) :
    MetFree l (⟨"java/lang/String", "valueOf", "(C)Ljava/lang/String;"⟩ : MethodName) (head1 (Jvm.Cond.code (⟨"java/lang/String", "valueOf", "(C)Ljava/lang/String;"⟩ : MethodName) jdk_42_method_139_code 1 (some (.object "java/lang/String")) :: ws) ({ frames := 2, cells := 2, slots := 5, locals := 27 } : Room)) (fun aA UA => aA = #[(.int ch)] ∧ Z.Warmed39 UA.vm ∧ UA.heap = h0) (fun _ _ _ _ _ => True) (fun _ UA oA UB => ∃ rV LE, oA = .returned rV ∧ QrmVo Z ch cs h0 n0 rV UB.heap LE ∧ FrameEnd UA oA UB LE ({ frames := 2, cells := 2, slots := 5, locals := 27 } : Room).cells ({ frames := 2, cells := 2, slots := 5, locals := 27 } : Room).slots) := by
  refine MetFree.of_bodySF (plainFor_of_name pn_1) hisR ?_
  intro p e s m args below meth c s₁ Bd hml0 hP hK
  obtain ⟨rfl, hZ, hh⟩ := hP
  have hx := Bd.exec
  have hby := Bd.bytes
  have hml : c.maxLocals = 1 := hml0
  have hown : s.vm.findClass "java/lang/String" = some m.cls := findClass_of_methodNamed Bd.named
  have hnm := (name_of_methodNamed Bd.named Bd.method).1
  have hlk := Bd.notSynchronized
  have X0 : Stand p l e ({ frames := 2, cells := 2, slots := 5, locals := 27 } : Room) s m #[(.int ch)] below meth c s₁ [] 0 0 := Stand.of_body Bd
  have e0 : s₁.heap = h0 := by rw [← hh, Bd.state]; rfl
  have N0 := Fr.nil n0
  show Go p e below s (QrmVo Z ch cs h0 n0) ({ frames := 2, cells := 2, slots := 5, locals := 27 } : Room).cells ({ frames := 2, cells := 2, slots := 5, locals := 27 } : Room).slots s₁ (entryFrame m #[(.int ch)] 1)
  refine Go.eq (ef_rmVo m ch) ?_
  show Go p e below s _ _ _ s₁ (mkF m 0 #[.val (.int ch)] [])
  obtain ⟨T_1, X_1, e_1, st_1⟩ := getS2 X0 hx hZ hown (host := "") (Or.inl (hw _ (List.mem_of_getElem? (i := 10) rfl))) Via.refl e0 S_COMPACT_STRINGS (g := (mkF m 0 #[.val (.int ch)] [])) rfl (hb hby d2_0)
  refine Go.st st_1 ?_
  show Go p e below s _ _ _ T_1 (mkF m 3 #[.val (.int ch)] [(.int cs)])
  refine Go.st (fun _ => XS.ifNo X_1.here hx rfl (hb hby d2_3) rfl ((if0 _ _).trans (feq hcs).1)) ?_
  show Go p e below s _ _ _ T_1 (mkF m 6 #[.val (.int ch)] [])
  refine Go.st (fun _ => XS.iloadN X_1.here hx rfl (hb hby d2_6) rfl) ?_
  show Go p e below s _ _ _ T_1 (mkF m 7 #[.val (.int ch)] [(.int ch)])
  obtain ⟨_, _, ⟨T_2, L_2, kc_2, nc_2⟩, -, X_2, ⟨Lc_2, hQ_2, l_2, y_2, z_2⟩, st_2⟩ := Jvm.LawKit.callS X_1 hx (y := (⟨"java/lang/StringLatin1", "canEncode", "(C)Z"⟩ : MethodName)) hown (mvT hZ (hw _ (List.mem_of_getElem? (i := 11) rfl))) (mvT hZ (hw _ (List.mem_of_getElem? (i := 12) rfl))) (mvT hZ (hw _ (List.mem_of_getElem? (i := 13) rfl))) (mvT hZ (hw _ (List.mem_of_getElem? (i := 14) rfl))) (by decide) (backOf (W := 0) (rmCan l Z a0 hw [] ch h0 n0 Z0 ) hZ (hw _ (List.mem_of_getElem? (i := 14) rfl)) (hw _ (List.mem_of_getElem? (i := 13) rfl)) (by decide) (by decide)) (g := (mkF m 7 #[.val (.int ch)] [(.int ch)])) rfl (by rw [hml]; rfl) (argsL := [(.int ch)]) (rest := []) (lenOf pd_0 rfl) rfl (by show 2 * 0 + _ ≤ _; exact Nat.le_of_eq rfl) (hb hby d2_7) (fun _ _ => ⟨rfl, e_1, (by decide : 0 + 0 ≤ _), (by decide : 0 + 0 ≤ _)⟩)
  dsimp only [Pt.U, Pt.locs, Pt.cells, Pt.slots] at X_2 l_2 y_2 z_2 st_2 hQ_2
  obtain rfl : kc_2 = 0 := y_2
  obtain rfl : nc_2 = 0 := z_2
  obtain ⟨h_2, e_2⟩ : ∃ hh, T_2.heap = hh := ⟨_, rfl⟩
  rw [e_2] at hQ_2
  obtain ⟨rfl, N_2q, sm_2⟩ := hQ_2
  have N_2 : Fr n0 L_2 := by rw [l_2]; exact Fr.app N0 N_2q
  refine Go.st st_2 ?_
  rw [sm_2] at e_2
  show Go p e below s _ _ _ T_2 (mkF m 10 #[.val (.int ch)] [(.int (b2i (¬ ((255 : Int32) < ch))))])
  rw [show (b2i (¬ ((255 : Int32) < ch))) = (1 : Int32) from b2i_pos hch]
  show Go p e below s _ _ _ T_2 (mkF m 10 #[.val (.int ch)] [(.int (1 : Int32))])
  refine Go.st (fun _ => XS.ifNo X_2.here hx rfl (hb hby d2_10) rfl ((if0 _ _).trans (feq (by decide : ¬ ((1 : Int32) = (0 : Int32)))).1)) ?_
  show Go p e below s _ _ _ T_2 (mkF m 13 #[.val (.int ch)] [])
  obtain ⟨T_3, h_3, X_3, e_3, E_3, A_3, D_3, -, st_3⟩ := newO X_2 hx hZ hown (hw _ (List.mem_of_getElem? (i := 15) rfl)) (hw _ (List.mem_of_getElem? (i := 16) rfl)) (hw _ (List.mem_of_getElem? (i := 8) rfl)) e_2 (g := (mkF m 13 #[.val (.int ch)] [])) rfl (hb hby d2_13) (by decide) (by decide)
  obtain ⟨b_3, g_3⟩ : ∃ z, z = h0.size := ⟨_, rfl⟩
  rw [← g_3] at A_3 D_3 st_3
  refine Go.st st_3 ?_
  have gg_3 : n0 ≤ b_3 := Nat.le_trans Z0 (Nat.le_of_eq g_3.symm)
  have sz_3 : h0.size ≤ b_3 := Nat.le_trans (Keep.refl h0 []).1 (Nat.le_of_eq g_3.symm)
  have K_3 : Keep h0 h_3 [] := (Keep.refl h0 []).ext E_3
  have z_3 : n0 ≤ h_3.size := Nat.le_trans Z0 E_3.1
  have F_value_b_3 : Fld Z h_3 b_3 "java/lang/String" "value" "[B" .null := D_3 (Or.inr (hw _ (List.mem_of_getElem? (i := 29) rfl))) (ty := (.array .byte)) (by decide)
  have F_coder_b_3 : Fld Z h_3 b_3 "java/lang/String" "coder" "B" (.int (0 : Int32)) := D_3 (Or.inr (hw _ (List.mem_of_getElem? (i := 31) rfl))) (ty := .byte) (by decide)
  show Go p e below s _ _ _ T_3 (mkF m 16 #[.val (.int ch)] [(.ref b_3)])
  refine Go.st (fun _ => XS.dup X_3.here hx rfl (hb hby d2_16) rfl rfl) ?_
  show Go p e below s _ _ _ T_3 (mkF m 17 #[.val (.int ch)] [(.ref b_3), (.ref b_3)])
  refine Go.st (fun _ => XS.iloadN X_3.here hx rfl (hb hby d2_17) rfl) ?_
  show Go p e below s _ _ _ T_3 (mkF m 18 #[.val (.int ch)] [(.int ch), (.ref b_3), (.ref b_3)])
  obtain ⟨_, _, ⟨T_4, L_4, kc_4, nc_4⟩, -, X_4, ⟨Lc_4, hQ_4, l_4, y_4, z_4⟩, st_4⟩ := Jvm.LawKit.callS X_3 hx (y := (⟨"java/lang/StringLatin1", "toBytes", "(C)[B"⟩ : MethodName)) hown (mvT hZ (hw _ (List.mem_of_getElem? (i := 17) rfl))) (mvT hZ (hw _ (List.mem_of_getElem? (i := 18) rfl))) (mvT hZ (hw _ (List.mem_of_getElem? (i := 13) rfl))) (mvT hZ (hw _ (List.mem_of_getElem? (i := 19) rfl))) (by decide) (backOf (W := 2) (rmTob l Z a0 hw [] ch h_3 n0 z_3 ) hZ (hw _ (List.mem_of_getElem? (i := 19) rfl)) (hw _ (List.mem_of_getElem? (i := 13) rfl)) (by decide) (by decide)) (g := (mkF m 18 #[.val (.int ch)] [(.int ch), (.ref b_3), (.ref b_3)])) rfl (by rw [hml]; rfl) (argsL := [(.int ch)]) (rest := [(.ref b_3), (.ref b_3)]) (lenOf pd_1 rfl) rfl (by show 2 * 0 + _ ≤ _; exact Nat.le_of_eq rfl) (hb hby d2_18) (fun _ _ => ⟨rfl, e_3, (by decide : 1 + 1 ≤ _), (by decide : 4 + 1 ≤ _)⟩)
  dsimp only [Pt.U, Pt.locs, Pt.cells, Pt.slots] at X_4 l_4 y_4 z_4 st_4 hQ_4
  obtain rfl : kc_4 = 2 := y_4
  obtain rfl : nc_4 = 5 := z_4
  obtain ⟨h_4, e_4⟩ : ∃ hh, T_4.heap = hh := ⟨_, rfl⟩
  rw [e_4] at hQ_4
  obtain ⟨d__4, kd__4, rfl, N_4q, K_4, p_4_0, p_4_1, p_4_2⟩ := hQ_4
  have N_4 : Fr n0 L_4 := by rw [l_4]; exact Fr.app N_2 N_4q
  refine Go.st st_4 ?_
  have ne_b_3_d__4 : b_3 ≠ d__4 := Nat.ne_of_lt (Nat.lt_of_lt_of_le A_3.lt p_4_0)
  have KK_4 : Keep h0 h_4 [] := K_3.trans K_4 all0
  have z_4q : n0 ≤ h_4.size := Nat.le_trans z_3 K_4.1
  have ns_4 : ∀ x ∈ ([] : List Addr), ∀ cell : Cell, h_3[x]? = some cell → cell.vm.isStatics = false := all0
  have sz_4_0 : h0.size ≤ d__4 := Nat.le_trans K_3.1 p_4_0
  show Go p e below s _ _ _ T_4 (mkF m 21 #[.val (.int ch)] [(.ref d__4), (.ref b_3), (.ref b_3)])
  refine Go.st (fun _ => XS.iconst X_4.here hx rfl (hb hby d2_21)) ?_
  show Go p e below s _ _ _ T_4 (mkF m 22 #[.val (.int ch)] [(.int (0 : Int32)), (.ref d__4), (.ref b_3), (.ref b_3)])
  have f_6 := (A_3.keep K_4)
  have f_7 := (F_value_b_3.keep K_4 nin0)
  have f_8 := (F_coder_b_3.keep K_4 nin0)
  obtain ⟨_, _, ⟨T_5, L_5, kc_5, nc_5⟩, -, X_5, ⟨Lc_5, hQ_5, l_5, y_5, z_5⟩, st_5⟩ := X_4.specialBack hx (y := (⟨"java/lang/String", "<init>", "([BB)V"⟩ : MethodName)) rfl hown (mvT hZ (hw _ (List.mem_of_getElem? (i := 21) rfl))) (mvT hZ (hw _ (List.mem_of_getElem? (i := 22) rfl))) (mvT hZ (hw _ (List.mem_of_getElem? (i := 24) rfl))) (by decide) (backOf (W := 1) (rmSi l Z a0 hw [] b_3 d__4 h_4 n0 z_4q f_6 f_7 f_8 gg_3) hZ (hw _ (List.mem_of_getElem? (i := 24) rfl)) (hw _ (List.mem_of_getElem? (i := 8) rfl)) (by decide) (by decide)) (g := (mkF m 22 #[.val (.int ch)] [(.int (0 : Int32)), (.ref d__4), (.ref b_3), (.ref b_3)])) rfl (by rw [hml]; rfl) (Steps.refl _) (a := b_3) (argsL := [(.ref d__4), (.int (0 : Int32))]) (rest := [(.ref b_3)]) (lenOf pd_2 rfl) rfl (by show 2 * 0 + _ ≤ _; exact Nat.le_of_eq rfl) (hb hby d2_22) (fun _ _ => ⟨rfl, e_4, (by decide : 2 + 0 ≤ _), (by decide : 5 + 0 ≤ _)⟩)
  dsimp only [Pt.U, Pt.locs, Pt.cells, Pt.slots] at X_5 l_5 y_5 z_5 st_5 hQ_5
  obtain rfl : kc_5 = 2 := y_5
  obtain rfl : nc_5 = 5 := z_5
  obtain ⟨h_5, e_5⟩ : ∃ hh, T_5.heap = hh := ⟨_, rfl⟩
  rw [e_5] at hQ_5
  obtain ⟨rfl, N_5q, K_5, p_5_0, p_5_1, p_5_2⟩ := hQ_5
  have N_5 : Fr n0 L_5 := by rw [l_5]; exact Fr.app N_4 N_5q
  refine Go.st (fun _ kk => st_5.trans kk) ?_
  have KK_5 : Keep h0 h_5 [] := KK_4.trans K_5 (allS (Or.inr sz_3) all0)
  have z_5q : n0 ≤ h_5.size := Nat.le_trans z_4q K_5.1
  have ns_5 : ∀ x ∈ ([b_3] : List Addr), ∀ cell : Cell, h_4[x]? = some cell → cell.vm.isStatics = false := (allS f_6.nostat all0)
  show Go p e below s _ _ _ T_5 (mkF m 25 #[.val (.int ch)] [(.ref b_3)])
  have f_9 := (p_4_2.keep K_5 (ninS (Ne.symm ne_b_3_d__4) nin0))
  exact Go.retA X_5 hx hlk Bd.returns rfl rfl (hb hby d2_25) (by rw [e_5]; exact ⟨b_3, d__4, kd__4, rfl, N_5, KK_5, sz_3, gg_3, p_5_0, p_5_1, p_5_2, sz_4_0, p_4_1, f_9, ne_b_3_d__4⟩) (by decide) (by decide)
theorem d12_0 : decode jdk_42_method_154_code 0 = .ok (.getstatic 38, 3) := by decide +kernel
theorem d12_3 : decode jdk_42_method_154_code 3 = .ok (.ifCond .eq 14, 3) := by decide +kernel
theorem d12_6 : decode jdk_42_method_154_code 6 = .ok (.aload_n 0, 1) := by decide +kernel
theorem d12_7 : decode jdk_42_method_154_code 7 = .ok (.getfield 15, 3) := by decide +kernel
theorem d12_10 : decode jdk_42_method_154_code 10 = .ok (.ifCond .ne 7, 3) := by decide +kernel
theorem d12_13 : decode jdk_42_method_154_code 13 = .ok (.iconst 1, 1) := by decide +kernel
theorem d12_14 : decode jdk_42_method_154_code 14 = .ok (.goto 4, 3) := by decide +kernel
theorem d12_18 : decode jdk_42_method_154_code 18 = .ok (.ireturn, 1) := by decide +kernel
theorem ef_rmLat (m : MethodId) (a : Addr) : entryFrame m #[(.ref a)] 1 = mkF m 0 #[.val (.ref a)] [] := by first | (simp [entryFrame, mkF, argsToLocals, Value.category]; done) | rfl
def QrmLat (Z : State) (a : Addr) (cs : Int32) (h0 : Heap) (n0 : Nat) (rV : Option Value) (hE : Heap) (LE : List Loc) : Prop := rV = some (.int (1 : Int32)) ∧ Fr n0 LE ∧ hE = h0
set_option maxRecDepth 65536 in
set_option maxHeartbeats 40000000 in
theorem rmLat (l : Launch) (Z : State) (a0 : Array Value) (hw : ∀ d ∈ tables_1, d.before a0 Z = true) (ws : List Jvm.Cond) (a : Addr) (cs : Int32) (h0 : Heap) (n0 : Nat) (Z0 : n0 ≤ h0.size) (S_COMPACT_STRINGS : Sta Z h0 "java/lang/String" "COMPACT_STRINGS" "Z" (.int cs)) (hcs : ¬ (cs = (0 : Int32))) (F_coder_a : Fld Z h0 a "java/lang/String" "coder" "B" (.int (0 : Int32))) :
    MetFree l (⟨"java/lang/String", "isLatin1", "()Z"⟩ : MethodName) (head1 (Jvm.Cond.code (⟨"java/lang/String", "isLatin1", "()Z"⟩ : MethodName) jdk_42_method_154_code 1 (some .boolean) :: ws) ({ frames := 0, cells := 0, slots := 0, locals := 0 } : Room)) (fun aA UA => aA = #[(.ref a)] ∧ Z.Warmed39 UA.vm ∧ UA.heap = h0) (fun _ _ _ _ _ => True) (fun _ UA oA UB => ∃ rV LE, oA = .returned rV ∧ QrmLat Z a cs h0 n0 rV UB.heap LE ∧ FrameEnd UA oA UB LE ({ frames := 0, cells := 0, slots := 0, locals := 0 } : Room).cells ({ frames := 0, cells := 0, slots := 0, locals := 0 } : Room).slots) := by
  refine MetFree.of_bodySF (plainFor_of_name pn_1) hisR ?_
  intro p e s m args below meth c s₁ Bd hml0 hP hK
  obtain ⟨rfl, hZ, hh⟩ := hP
  have hx := Bd.exec
  have hby := Bd.bytes
  have hml : c.maxLocals = 1 := hml0
  have hown : s.vm.findClass "java/lang/String" = some m.cls := findClass_of_methodNamed Bd.named
  have hnm := (name_of_methodNamed Bd.named Bd.method).1
  have hlk := Bd.notSynchronized
  have X0 : Stand p l e ({ frames := 0, cells := 0, slots := 0, locals := 0 } : Room) s m #[(.ref a)] below meth c s₁ [] 0 0 := Stand.of_body Bd
  have e0 : s₁.heap = h0 := by rw [← hh, Bd.state]; rfl
  have N0 := Fr.nil n0
  show Go p e below s (QrmLat Z a cs h0 n0) ({ frames := 0, cells := 0, slots := 0, locals := 0 } : Room).cells ({ frames := 0, cells := 0, slots := 0, locals := 0 } : Room).slots s₁ (entryFrame m #[(.ref a)] 1)
  refine Go.eq (ef_rmLat m a) ?_
  show Go p e below s _ _ _ s₁ (mkF m 0 #[.val (.ref a)] [])
  obtain ⟨T_1, X_1, e_1, st_1⟩ := getS2 X0 hx hZ hown (host := "") (Or.inl (hw _ (List.mem_of_getElem? (i := 10) rfl))) Via.refl e0 S_COMPACT_STRINGS (g := (mkF m 0 #[.val (.ref a)] [])) rfl (hb hby d12_0)
  refine Go.st st_1 ?_
  show Go p e below s _ _ _ T_1 (mkF m 3 #[.val (.ref a)] [(.int cs)])
  refine Go.st (fun _ => XS.ifNo X_1.here hx rfl (hb hby d12_3) rfl ((if0 _ _).trans (feq hcs).1)) ?_
  show Go p e below s _ _ _ T_1 (mkF m 6 #[.val (.ref a)] [])
  refine Go.st (fun _ => XS.aloadN X_1.here hx rfl (hb hby d12_6) rfl rfl) ?_
  show Go p e below s _ _ _ T_1 (mkF m 7 #[.val (.ref a)] [(.ref a)])
  obtain ⟨T_2, X_2, e_2, st_2⟩ := getF X_1 hx hZ hown (host := "") (Or.inl (hw _ (List.mem_of_getElem? (i := 30) rfl))) Via.refl e_1 F_coder_a (g := (mkF m 7 #[.val (.ref a)] [(.ref a)])) rfl rfl (hb hby d12_7)
  refine Go.st st_2 ?_
  show Go p e below s _ _ _ T_2 (mkF m 10 #[.val (.ref a)] [(.int (0 : Int32))])
  refine Go.st (fun _ => XS.ifNo X_2.here hx rfl (hb hby d12_10) rfl ((if0 _ _).trans (teq (by decide : (0 : Int32) = (0 : Int32))).2)) ?_
  show Go p e below s _ _ _ T_2 (mkF m 13 #[.val (.ref a)] [])
  refine Go.st (fun _ => XS.iconst X_2.here hx rfl (hb hby d12_13)) ?_
  show Go p e below s _ _ _ T_2 (mkF m 14 #[.val (.ref a)] [(.int (1 : Int32))])
  refine Go.st (fun _ => XS.goto X_2.here hx rfl (pc0 := 14) (pc' := 18) rfl (hb hby d12_14) (by decide) (by decide)) ?_
  show Go p e below s _ _ _ T_2 (mkF m 18 #[.val (.ref a)] [(.int (1 : Int32))])
  exact Go.retZ X_2 hx hlk Bd.returns (hb hby d12_18) rfl (by rw [e_2]; exact ⟨rfl, N0, rfl⟩) (by decide) (by decide)
theorem d10_0 : decode jdk_42_method_152_code 0 = .ok (.getstatic 38, 3) := by decide +kernel
theorem d10_3 : decode jdk_42_method_152_code 3 = .ok (.ifCond .eq 10, 3) := by decide +kernel
theorem d10_6 : decode jdk_42_method_152_code 6 = .ok (.aload_n 0, 1) := by decide +kernel
theorem d10_7 : decode jdk_42_method_152_code 7 = .ok (.getfield 15, 3) := by decide +kernel
theorem d10_10 : decode jdk_42_method_152_code 10 = .ok (.goto 4, 3) := by decide +kernel
theorem d10_14 : decode jdk_42_method_152_code 14 = .ok (.ireturn, 1) := by decide +kernel
theorem ef_rmCod (m : MethodId) (a : Addr) : entryFrame m #[(.ref a)] 1 = mkF m 0 #[.val (.ref a)] [] := by first | (simp [entryFrame, mkF, argsToLocals, Value.category]; done) | rfl
def QrmCod (Z : State) (a : Addr) (cs : Int32) (h0 : Heap) (n0 : Nat) (rV : Option Value) (hE : Heap) (LE : List Loc) : Prop := rV = some (.int (0 : Int32)) ∧ Fr n0 LE ∧ hE = h0
set_option maxRecDepth 65536 in
set_option maxHeartbeats 40000000 in
theorem rmCod (l : Launch) (Z : State) (a0 : Array Value) (hw : ∀ d ∈ tables_1, d.before a0 Z = true) (ws : List Jvm.Cond) (a : Addr) (cs : Int32) (h0 : Heap) (n0 : Nat) (Z0 : n0 ≤ h0.size) (S_COMPACT_STRINGS : Sta Z h0 "java/lang/String" "COMPACT_STRINGS" "Z" (.int cs)) (hcs : ¬ (cs = (0 : Int32))) (F_coder_a : Fld Z h0 a "java/lang/String" "coder" "B" (.int (0 : Int32))) :
    MetFree l (⟨"java/lang/String", "coder", "()B"⟩ : MethodName) (head1 (Jvm.Cond.code (⟨"java/lang/String", "coder", "()B"⟩ : MethodName) jdk_42_method_152_code 1 (some .byte) :: ws) ({ frames := 0, cells := 0, slots := 0, locals := 0 } : Room)) (fun aA UA => aA = #[(.ref a)] ∧ Z.Warmed39 UA.vm ∧ UA.heap = h0) (fun _ _ _ _ _ => True) (fun _ UA oA UB => ∃ rV LE, oA = .returned rV ∧ QrmCod Z a cs h0 n0 rV UB.heap LE ∧ FrameEnd UA oA UB LE ({ frames := 0, cells := 0, slots := 0, locals := 0 } : Room).cells ({ frames := 0, cells := 0, slots := 0, locals := 0 } : Room).slots) := by
  refine MetFree.of_bodySF (plainFor_of_name pn_1) hisR ?_
  intro p e s m args below meth c s₁ Bd hml0 hP hK
  obtain ⟨rfl, hZ, hh⟩ := hP
  have hx := Bd.exec
  have hby := Bd.bytes
  have hml : c.maxLocals = 1 := hml0
  have hown : s.vm.findClass "java/lang/String" = some m.cls := findClass_of_methodNamed Bd.named
  have hnm := (name_of_methodNamed Bd.named Bd.method).1
  have hlk := Bd.notSynchronized
  have X0 : Stand p l e ({ frames := 0, cells := 0, slots := 0, locals := 0 } : Room) s m #[(.ref a)] below meth c s₁ [] 0 0 := Stand.of_body Bd
  have e0 : s₁.heap = h0 := by rw [← hh, Bd.state]; rfl
  have N0 := Fr.nil n0
  show Go p e below s (QrmCod Z a cs h0 n0) ({ frames := 0, cells := 0, slots := 0, locals := 0 } : Room).cells ({ frames := 0, cells := 0, slots := 0, locals := 0 } : Room).slots s₁ (entryFrame m #[(.ref a)] 1)
  refine Go.eq (ef_rmCod m a) ?_
  show Go p e below s _ _ _ s₁ (mkF m 0 #[.val (.ref a)] [])
  obtain ⟨T_1, X_1, e_1, st_1⟩ := getS2 X0 hx hZ hown (host := "") (Or.inl (hw _ (List.mem_of_getElem? (i := 10) rfl))) Via.refl e0 S_COMPACT_STRINGS (g := (mkF m 0 #[.val (.ref a)] [])) rfl (hb hby d10_0)
  refine Go.st st_1 ?_
  show Go p e below s _ _ _ T_1 (mkF m 3 #[.val (.ref a)] [(.int cs)])
  refine Go.st (fun _ => XS.ifNo X_1.here hx rfl (hb hby d10_3) rfl ((if0 _ _).trans (feq hcs).1)) ?_
  show Go p e below s _ _ _ T_1 (mkF m 6 #[.val (.ref a)] [])
  refine Go.st (fun _ => XS.aloadN X_1.here hx rfl (hb hby d10_6) rfl rfl) ?_
  show Go p e below s _ _ _ T_1 (mkF m 7 #[.val (.ref a)] [(.ref a)])
  obtain ⟨T_2, X_2, e_2, st_2⟩ := getF X_1 hx hZ hown (host := "") (Or.inl (hw _ (List.mem_of_getElem? (i := 30) rfl))) Via.refl e_1 F_coder_a (g := (mkF m 7 #[.val (.ref a)] [(.ref a)])) rfl rfl (hb hby d10_7)
  refine Go.st st_2 ?_
  show Go p e below s _ _ _ T_2 (mkF m 10 #[.val (.ref a)] [(.int (0 : Int32))])
  refine Go.st (fun _ => XS.goto X_2.here hx rfl (pc0 := 10) (pc' := 14) rfl (hb hby d10_10) (by decide) (by decide)) ?_
  show Go p e below s _ _ _ T_2 (mkF m 14 #[.val (.ref a)] [(.int (0 : Int32))])
  exact Go.retB X_2 hx hlk Bd.returns (hb hby d10_14) rfl (by rw [e_2]; exact ⟨rfl, N0, rfl⟩) (by decide) (by decide)
theorem d15_0 : decode jdk_41_method_11_code 0 = .ok (.iload_n 0, 1) := by decide +kernel
theorem d15_1 : decode jdk_41_method_11_code 1 = .ok (.ifCond .lt 8, 3) := by decide +kernel
theorem d15_4 : decode jdk_41_method_11_code 4 = .ok (.iload_n 0, 1) := by decide +kernel
theorem d15_5 : decode jdk_41_method_11_code 5 = .ok (.iload_n 1, 1) := by decide +kernel
theorem d15_6 : decode jdk_41_method_11_code 6 = .ok (.if_icmp .lt 10, 3) := by decide +kernel
theorem d15_16 : decode jdk_41_method_11_code 16 = .ok (.iload_n 0, 1) := by decide +kernel
theorem d15_17 : decode jdk_41_method_11_code 17 = .ok (.ireturn, 1) := by decide +kernel
theorem pn_2 : plainName "jdk/internal/util/Preconditions" = true := by first | (simp [plainName, overriddenIn]; done) | decide +kernel
theorem ef_rmPre (m : MethodId) (fm : Value) (rf_fm : fm.isRef = true) : entryFrame m #[(.int (0 : Int32)), (.int (1 : Int32)), fm] 3 = mkF m 0 #[.val (.int (0 : Int32)), .val (.int (1 : Int32)), .val fm] [] := by
  rcases ref_cases rf_fm with rfl | ⟨_, rfl⟩
  all_goals (first | (simp [entryFrame, mkF, argsToLocals, Value.category]; done) | rfl)
def QrmPre (Z : State) (fm : Value) (h0 : Heap) (n0 : Nat) (rV : Option Value) (hE : Heap) (LE : List Loc) : Prop := rV = some (.int (0 : Int32)) ∧ Fr n0 LE ∧ hE = h0
set_option maxRecDepth 65536 in
set_option maxHeartbeats 40000000 in
theorem rmPre (l : Launch) (Z : State) (a0 : Array Value) (hw : ∀ d ∈ tables_1, d.before a0 Z = true) (ws : List Jvm.Cond) (fm : Value) (h0 : Heap) (n0 : Nat) (Z0 : n0 ≤ h0.size) (rf_fm : fm.isRef = true) :
    MetFree l (⟨"jdk/internal/util/Preconditions", "checkIndex", "(IILjava/util/function/BiFunction;)I"⟩ : MethodName) (head1 (Jvm.Cond.code (⟨"jdk/internal/util/Preconditions", "checkIndex", "(IILjava/util/function/BiFunction;)I"⟩ : MethodName) jdk_41_method_11_code 3 (some .int) :: ws) ({ frames := 0, cells := 0, slots := 0, locals := 0 } : Room)) (fun aA UA => aA = #[(.int (0 : Int32)), (.int (1 : Int32)), fm] ∧ Z.Warmed39 UA.vm ∧ UA.heap = h0) (fun _ _ _ _ _ => True) (fun _ UA oA UB => ∃ rV LE, oA = .returned rV ∧ QrmPre Z fm h0 n0 rV UB.heap LE ∧ FrameEnd UA oA UB LE ({ frames := 0, cells := 0, slots := 0, locals := 0 } : Room).cells ({ frames := 0, cells := 0, slots := 0, locals := 0 } : Room).slots) := by
  refine MetFree.of_bodySF (plainFor_of_name pn_2) hisR ?_
  intro p e s m args below meth c s₁ Bd hml0 hP hK
  obtain ⟨rfl, hZ, hh⟩ := hP
  have hx := Bd.exec
  have hby := Bd.bytes
  have hml : c.maxLocals = 3 := hml0
  have hown : s.vm.findClass "jdk/internal/util/Preconditions" = some m.cls := findClass_of_methodNamed Bd.named
  have hnm := (name_of_methodNamed Bd.named Bd.method).1
  have hlk := Bd.notSynchronized
  have X0 : Stand p l e ({ frames := 0, cells := 0, slots := 0, locals := 0 } : Room) s m #[(.int (0 : Int32)), (.int (1 : Int32)), fm] below meth c s₁ [] 0 0 := Stand.of_body Bd
  have e0 : s₁.heap = h0 := by rw [← hh, Bd.state]; rfl
  have N0 := Fr.nil n0
  show Go p e below s (QrmPre Z fm h0 n0) ({ frames := 0, cells := 0, slots := 0, locals := 0 } : Room).cells ({ frames := 0, cells := 0, slots := 0, locals := 0 } : Room).slots s₁ (entryFrame m #[(.int (0 : Int32)), (.int (1 : Int32)), fm] 3)
  refine Go.eq (ef_rmPre m fm rf_fm) ?_
  show Go p e below s _ _ _ s₁ (mkF m 0 #[.val (.int (0 : Int32)), .val (.int (1 : Int32)), .val fm] [])
  refine Go.st (fun _ => XS.iloadN X0.here hx rfl (hb hby d15_0) rfl) ?_
  show Go p e below s _ _ _ s₁ (mkF m 1 #[.val (.int (0 : Int32)), .val (.int (1 : Int32)), .val fm] [(.int (0 : Int32))])
  refine Go.st (fun _ => XS.ifNo X0.here hx rfl (hb hby d15_1) rfl ((if0 _ _).trans (flt (by decide : ¬ ((0 : Int32) < (0 : Int32)))).1)) ?_
  show Go p e below s _ _ _ s₁ (mkF m 4 #[.val (.int (0 : Int32)), .val (.int (1 : Int32)), .val fm] [])
  refine Go.st (fun _ => XS.iloadN X0.here hx rfl (hb hby d15_4) rfl) ?_
  show Go p e below s _ _ _ s₁ (mkF m 5 #[.val (.int (0 : Int32)), .val (.int (1 : Int32)), .val fm] [(.int (0 : Int32))])
  refine Go.st (fun _ => XS.iloadN X0.here hx rfl (hb hby d15_5) rfl) ?_
  show Go p e below s _ _ _ s₁ (mkF m 6 #[.val (.int (0 : Int32)), .val (.int (1 : Int32)), .val fm] [(.int (1 : Int32)), (.int (0 : Int32))])
  refine Go.st (fun _ => XS.icmpYes X0.here hx rfl (pc0 := 6) (pc' := 16) rfl (hb hby d15_6) rfl (tlt (by decide : (0 : Int32) < (1 : Int32))).1 (by decide) (by decide)) ?_
  show Go p e below s _ _ _ s₁ (mkF m 16 #[.val (.int (0 : Int32)), .val (.int (1 : Int32)), .val fm] [])
  refine Go.st (fun _ => XS.iloadN X0.here hx rfl (hb hby d15_16) rfl) ?_
  show Go p e below s _ _ _ s₁ (mkF m 17 #[.val (.int (0 : Int32)), .val (.int (1 : Int32)), .val fm] [(.int (0 : Int32))])
  exact Go.retI X0 hx hlk Bd.returns (hb hby d15_17) (by rw [e0]; exact ⟨rfl, N0, rfl⟩) (by decide) (by decide)
theorem d14_0 : decode jdk_42_method_155_code 0 = .ok (.iload_n 0, 1) := by decide +kernel
theorem d14_1 : decode jdk_42_method_155_code 1 = .ok (.iload_n 1, 1) := by decide +kernel
theorem d14_2 : decode jdk_42_method_155_code 2 = .ok (.getstatic 1053, 3) := by decide +kernel
theorem d14_5 : decode jdk_42_method_155_code 5 = .ok (.invokestatic 1059, 3) := by decide +kernel
theorem pd_3 : parseMethodDescriptor "(IILjava/util/function/BiFunction;)I" = some ⟨[.int, .int, (.object "java/util/function/BiFunction")], some .int⟩ := by decide +kernel
theorem d14_8 : decode jdk_42_method_155_code 8 = .ok (.pop, 1) := by decide +kernel
theorem d14_9 : decode jdk_42_method_155_code 9 = .ok (.return_, 1) := by decide +kernel
theorem ef_rmChk (m : MethodId)  : entryFrame m #[(.int (0 : Int32)), (.int (1 : Int32))] 2 = mkF m 0 #[.val (.int (0 : Int32)), .val (.int (1 : Int32))] [] := by first | (simp [entryFrame, mkF, argsToLocals, Value.category]; done) | rfl
def QrmChk (Z : State) (fm : Value) (h0 : Heap) (n0 : Nat) (rV : Option Value) (hE : Heap) (LE : List Loc) : Prop := rV = none ∧ Fr n0 LE ∧ hE = h0
set_option maxRecDepth 65536 in
set_option maxHeartbeats 40000000 in
theorem rmChk (l : Launch) (Z : State) (a0 : Array Value) (hw : ∀ d ∈ tables_1, d.before a0 Z = true) (ws : List Jvm.Cond) (fm : Value) (h0 : Heap) (n0 : Nat) (Z0 : n0 ≤ h0.size) (S_SIOOBE_FORMATTER : Sta Z h0 "jdk/internal/util/Preconditions" "SIOOBE_FORMATTER" "Ljava/util/function/BiFunction;" fm) (rf_fm : fm.isRef = true) :
    MetFree l (⟨"java/lang/String", "checkIndex", "(II)V"⟩ : MethodName) (head1 (Jvm.Cond.code (⟨"java/lang/String", "checkIndex", "(II)V"⟩ : MethodName) jdk_42_method_155_code 2 none :: ws) ({ frames := 1, cells := 0, slots := 0, locals := 14 } : Room)) (fun aA UA => aA = #[(.int (0 : Int32)), (.int (1 : Int32))] ∧ Z.Warmed39 UA.vm ∧ UA.heap = h0) (fun _ _ _ _ _ => True) (fun _ UA oA UB => ∃ rV LE, oA = .returned rV ∧ QrmChk Z fm h0 n0 rV UB.heap LE ∧ FrameEnd UA oA UB LE ({ frames := 1, cells := 0, slots := 0, locals := 14 } : Room).cells ({ frames := 1, cells := 0, slots := 0, locals := 14 } : Room).slots) := by
  refine MetFree.of_bodySF (plainFor_of_name pn_1) hisR ?_
  intro p e s m args below meth c s₁ Bd hml0 hP hK
  obtain ⟨rfl, hZ, hh⟩ := hP
  have hx := Bd.exec
  have hby := Bd.bytes
  have hml : c.maxLocals = 2 := hml0
  have hown : s.vm.findClass "java/lang/String" = some m.cls := findClass_of_methodNamed Bd.named
  have hnm := (name_of_methodNamed Bd.named Bd.method).1
  have hlk := Bd.notSynchronized
  have X0 : Stand p l e ({ frames := 1, cells := 0, slots := 0, locals := 14 } : Room) s m #[(.int (0 : Int32)), (.int (1 : Int32))] below meth c s₁ [] 0 0 := Stand.of_body Bd
  have e0 : s₁.heap = h0 := by rw [← hh, Bd.state]; rfl
  have N0 := Fr.nil n0
  show Go p e below s (QrmChk Z fm h0 n0) ({ frames := 1, cells := 0, slots := 0, locals := 14 } : Room).cells ({ frames := 1, cells := 0, slots := 0, locals := 14 } : Room).slots s₁ (entryFrame m #[(.int (0 : Int32)), (.int (1 : Int32))] 2)
  refine Go.eq (ef_rmChk m ) ?_
  show Go p e below s _ _ _ s₁ (mkF m 0 #[.val (.int (0 : Int32)), .val (.int (1 : Int32))] [])
  refine Go.st (fun _ => XS.iloadN X0.here hx rfl (hb hby d14_0) rfl) ?_
  show Go p e below s _ _ _ s₁ (mkF m 1 #[.val (.int (0 : Int32)), .val (.int (1 : Int32))] [(.int (0 : Int32))])
  refine Go.st (fun _ => XS.iloadN X0.here hx rfl (hb hby d14_1) rfl) ?_
  show Go p e below s _ _ _ s₁ (mkF m 2 #[.val (.int (0 : Int32)), .val (.int (1 : Int32))] [(.int (1 : Int32)), (.int (0 : Int32))])
  obtain ⟨T_1, X_1, e_1, st_1⟩ := getS2 X0 hx hZ hown (host := "") (Or.inl (hw _ (List.mem_of_getElem? (i := 66) rfl))) Via.refl e0 S_SIOOBE_FORMATTER (g := (mkF m 2 #[.val (.int (0 : Int32)), .val (.int (1 : Int32))] [(.int (1 : Int32)), (.int (0 : Int32))])) rfl (hb hby d14_2)
  refine Go.st st_1 ?_
  show Go p e below s _ _ _ T_1 (mkF m 5 #[.val (.int (0 : Int32)), .val (.int (1 : Int32))] [fm, (.int (1 : Int32)), (.int (0 : Int32))])
  obtain ⟨_, _, ⟨T_2, L_2, kc_2, nc_2⟩, -, X_2, ⟨Lc_2, hQ_2, l_2, y_2, z_2⟩, st_2⟩ := Jvm.LawKit.callS X_1 hx (y := (⟨"jdk/internal/util/Preconditions", "checkIndex", "(IILjava/util/function/BiFunction;)I"⟩ : MethodName)) hown (mvT hZ (hw _ (List.mem_of_getElem? (i := 68) rfl))) (mvT hZ (hw _ (List.mem_of_getElem? (i := 69) rfl))) (mvT hZ (hw _ (List.mem_of_getElem? (i := 67) rfl))) (mvT hZ (hw _ (List.mem_of_getElem? (i := 70) rfl))) (by decide) (backOf (W := 0) (rmPre l Z a0 hw [] fm h0 n0 Z0 rf_fm) hZ (hw _ (List.mem_of_getElem? (i := 70) rfl)) (hw _ (List.mem_of_getElem? (i := 67) rfl)) (by decide) (by decide)) (g := (mkF m 5 #[.val (.int (0 : Int32)), .val (.int (1 : Int32))] [fm, (.int (1 : Int32)), (.int (0 : Int32))])) rfl (by rw [hml]; rfl) (argsL := [(.int (0 : Int32)), (.int (1 : Int32)), fm]) (rest := []) (lenOf pd_3 rfl) rfl (by show 2 * 0 + _ ≤ _; exact Nat.le_of_eq rfl) (hb hby d14_5) (fun _ _ => ⟨rfl, e_1, (by decide : 0 + 0 ≤ _), (by decide : 0 + 0 ≤ _)⟩)
  dsimp only [Pt.U, Pt.locs, Pt.cells, Pt.slots] at X_2 l_2 y_2 z_2 st_2 hQ_2
  obtain rfl : kc_2 = 0 := y_2
  obtain rfl : nc_2 = 0 := z_2
  obtain ⟨h_2, e_2⟩ : ∃ hh, T_2.heap = hh := ⟨_, rfl⟩
  rw [e_2] at hQ_2
  obtain ⟨rfl, N_2q, sm_2⟩ := hQ_2
  have N_2 : Fr n0 L_2 := by rw [l_2]; exact Fr.app N0 N_2q
  refine Go.st st_2 ?_
  rw [sm_2] at e_2
  show Go p e below s _ _ _ T_2 (mkF m 8 #[.val (.int (0 : Int32)), .val (.int (1 : Int32))] [(.int (0 : Int32))])
  refine Go.st (fun _ => XS.pop X_2.here hx rfl (hb hby d14_8) rfl rfl) ?_
  show Go p e below s _ _ _ T_2 (mkF m 9 #[.val (.int (0 : Int32)), .val (.int (1 : Int32))] [])
  exact Go.ret0 X_2 hx hlk Bd.returns (hb hby d14_9) (by rw [e_2]; exact ⟨rfl, N_2, rfl⟩) (by decide) (by decide)
theorem d8_0 : decode jdk_42_method_55_code 0 = .ok (.aload_n 0, 1) := by decide +kernel
theorem d8_1 : decode jdk_42_method_55_code 1 = .ok (.getfield 9, 3) := by decide +kernel
theorem d8_4 : decode jdk_42_method_55_code 4 = .ok (.arraylength, 1) := by decide +kernel
theorem d8_5 : decode jdk_42_method_55_code 5 = .ok (.ifCond .ne 7, 3) := by decide +kernel
theorem d8_12 : decode jdk_42_method_55_code 12 = .ok (.iconst 0, 1) := by decide +kernel
theorem d8_13 : decode jdk_42_method_55_code 13 = .ok (.ireturn, 1) := by decide +kernel
theorem ef_rmEmp (m : MethodId) (a : Addr) : entryFrame m #[(.ref a)] 1 = mkF m 0 #[.val (.ref a)] [] := by first | (simp [entryFrame, mkF, argsToLocals, Value.category]; done) | rfl
def QrmEmp (Z : State) (a : Addr) (d : Addr) (kd : ClassId) (vs : List Value) (h0 : Heap) (n0 : Nat) (rV : Option Value) (hE : Heap) (LE : List Loc) : Prop := rV = some (.int (0 : Int32)) ∧ Fr n0 LE ∧ hE = h0
set_option maxRecDepth 65536 in
set_option maxHeartbeats 40000000 in
theorem rmEmp (l : Launch) (Z : State) (a0 : Array Value) (hw : ∀ d ∈ tables_1, d.before a0 Z = true) (ws : List Jvm.Cond) (a : Addr) (d : Addr) (kd : ClassId) (vs : List Value) (h0 : Heap) (n0 : Nat) (Z0 : n0 ≤ h0.size) (F_value_a : Fld Z h0 a "java/lang/String" "value" "[B" (.ref d)) (V_d : Arv Z h0 d kd .byte (1 : Int32) vs (.int (0 : Int32))) :
    MetFree l (⟨"java/lang/String", "isEmpty", "()Z"⟩ : MethodName) (head1 (Jvm.Cond.code (⟨"java/lang/String", "isEmpty", "()Z"⟩ : MethodName) jdk_42_method_55_code 1 (some .boolean) :: ws) ({ frames := 0, cells := 0, slots := 0, locals := 0 } : Room)) (fun aA UA => aA = #[(.ref a)] ∧ Z.Warmed39 UA.vm ∧ UA.heap = h0) (fun _ _ _ _ _ => True) (fun _ UA oA UB => ∃ rV LE, oA = .returned rV ∧ QrmEmp Z a d kd vs h0 n0 rV UB.heap LE ∧ FrameEnd UA oA UB LE ({ frames := 0, cells := 0, slots := 0, locals := 0 } : Room).cells ({ frames := 0, cells := 0, slots := 0, locals := 0 } : Room).slots) := by
  refine MetFree.of_bodySF (plainFor_of_name pn_1) hisR ?_
  intro p e s m args below meth c s₁ Bd hml0 hP hK
  obtain ⟨rfl, hZ, hh⟩ := hP
  have hx := Bd.exec
  have hby := Bd.bytes
  have hml : c.maxLocals = 1 := hml0
  have hown : s.vm.findClass "java/lang/String" = some m.cls := findClass_of_methodNamed Bd.named
  have hnm := (name_of_methodNamed Bd.named Bd.method).1
  have hlk := Bd.notSynchronized
  have X0 : Stand p l e ({ frames := 0, cells := 0, slots := 0, locals := 0 } : Room) s m #[(.ref a)] below meth c s₁ [] 0 0 := Stand.of_body Bd
  have e0 : s₁.heap = h0 := by rw [← hh, Bd.state]; rfl
  have N0 := Fr.nil n0
  show Go p e below s (QrmEmp Z a d kd vs h0 n0) ({ frames := 0, cells := 0, slots := 0, locals := 0 } : Room).cells ({ frames := 0, cells := 0, slots := 0, locals := 0 } : Room).slots s₁ (entryFrame m #[(.ref a)] 1)
  refine Go.eq (ef_rmEmp m a) ?_
  show Go p e below s _ _ _ s₁ (mkF m 0 #[.val (.ref a)] [])
  refine Go.st (fun _ => XS.aloadN X0.here hx rfl (hb hby d8_0) rfl rfl) ?_
  show Go p e below s _ _ _ s₁ (mkF m 1 #[.val (.ref a)] [(.ref a)])
  obtain ⟨T_1, X_1, e_1, st_1⟩ := getF X0 hx hZ hown (host := "") (Or.inl (hw _ (List.mem_of_getElem? (i := 28) rfl))) Via.refl e0 F_value_a (g := (mkF m 1 #[.val (.ref a)] [(.ref a)])) rfl rfl (hb hby d8_1)
  refine Go.st st_1 ?_
  show Go p e below s _ _ _ T_1 (mkF m 4 #[.val (.ref a)] [(.ref d)])
  obtain ⟨cl_2, Ar_2, q_2, S_2, M_2, H_2, G_2⟩ := id V_d
  refine Go.st (fun tG => X_1.arraylength hx (by rw [e_1]; exact Ar_2.1) (State.isArrayOf_alike hZ.alike Ar_2.2.1) (g := (mkF m 4 #[.val (.ref a)] [(.ref d)])) rfl rfl (hb hby d8_4) tG) ?_
  rw [len_of S_2 M_2]
  show Go p e below s _ _ _ T_1 (mkF m 5 #[.val (.ref a)] [(.int (1 : Int32))])
  refine Go.st (fun _ => XS.ifYes X_1.here hx rfl (pc0 := 5) (pc' := 12) rfl (hb hby d8_5) rfl ((if0 _ _).trans (feq (by decide : ¬ ((1 : Int32) = (0 : Int32)))).2) (by decide) (by decide)) ?_
  show Go p e below s _ _ _ T_1 (mkF m 12 #[.val (.ref a)] [])
  refine Go.st (fun _ => XS.iconst X_1.here hx rfl (hb hby d8_12)) ?_
  show Go p e below s _ _ _ T_1 (mkF m 13 #[.val (.ref a)] [(.int (0 : Int32))])
  exact Go.retZ X_1 hx hlk Bd.returns (hb hby d8_13) rfl (by rw [e_1]; exact ⟨rfl, N0, rfl⟩) (by decide) (by decide)
theorem d21_0 : decode jdk_29_method_65_code 0 = .ok (.iload_n 0, 1) := by decide +kernel
theorem d21_1 : decode jdk_29_method_65_code 1 = .ok (.iload_n 1, 1) := by decide +kernel
theorem d21_2 : decode jdk_29_method_65_code 2 = .ok (.if_icmp .lt 7, 3) := by decide +kernel
theorem d21_5 : decode jdk_29_method_65_code 5 = .ok (.iload_n 0, 1) := by decide +kernel
theorem d21_6 : decode jdk_29_method_65_code 6 = .ok (.goto 4, 3) := by decide +kernel
theorem d21_10 : decode jdk_29_method_65_code 10 = .ok (.ireturn, 1) := by decide +kernel
theorem ef_rmMax (m : MethodId)  : entryFrame m #[(.int (0 : Int32)), (.int (0 : Int32))] 2 = mkF m 0 #[.val (.int (0 : Int32)), .val (.int (0 : Int32))] [] := by first | (simp [entryFrame, mkF, argsToLocals, Value.category]; done) | rfl
def QrmMax (Z : State)  (h0 : Heap) (n0 : Nat) (rV : Option Value) (hE : Heap) (LE : List Loc) : Prop := rV = some (.int (0 : Int32)) ∧ Fr n0 LE ∧ hE = h0
set_option maxRecDepth 65536 in
set_option maxHeartbeats 40000000 in
theorem rmMax (l : Launch) (Z : State) (a0 : Array Value) (hw : ∀ d ∈ tables_1, d.before a0 Z = true) (ws : List Jvm.Cond)  (h0 : Heap) (n0 : Nat) (Z0 : n0 ≤ h0.size) :
    MetFree l (⟨"java/lang/Math", "max", "(II)I"⟩ : MethodName) (head1 (Jvm.Cond.code (⟨"java/lang/Math", "max", "(II)I"⟩ : MethodName) jdk_29_method_65_code 2 (some .int) :: ws) ({ frames := 0, cells := 0, slots := 0, locals := 0 } : Room)) (fun aA UA => aA = #[(.int (0 : Int32)), (.int (0 : Int32))] ∧ Z.Warmed39 UA.vm ∧ UA.heap = h0) (fun _ _ _ _ _ => True) (fun _ UA oA UB => ∃ rV LE, oA = .returned rV ∧ QrmMax Z  h0 n0 rV UB.heap LE ∧ FrameEnd UA oA UB LE ({ frames := 0, cells := 0, slots := 0, locals := 0 } : Room).cells ({ frames := 0, cells := 0, slots := 0, locals := 0 } : Room).slots) := by
  refine MetFree.of_bodySF (Jvm.Free.JP.mathPlain rfl (by decide +kernel)) hisR ?_
  intro p e s m args below meth c s₁ Bd hml0 hP hK
  obtain ⟨rfl, hZ, hh⟩ := hP
  have hx := Bd.exec
  have hby := Bd.bytes
  have hml : c.maxLocals = 2 := hml0
  have hown : s.vm.findClass "java/lang/Math" = some m.cls := findClass_of_methodNamed Bd.named
  have hnm := (name_of_methodNamed Bd.named Bd.method).1
  have hlk := Bd.notSynchronized
  have X0 : Stand p l e ({ frames := 0, cells := 0, slots := 0, locals := 0 } : Room) s m #[(.int (0 : Int32)), (.int (0 : Int32))] below meth c s₁ [] 0 0 := Stand.of_body Bd
  have e0 : s₁.heap = h0 := by rw [← hh, Bd.state]; rfl
  have N0 := Fr.nil n0
  show Go p e below s (QrmMax Z  h0 n0) ({ frames := 0, cells := 0, slots := 0, locals := 0 } : Room).cells ({ frames := 0, cells := 0, slots := 0, locals := 0 } : Room).slots s₁ (entryFrame m #[(.int (0 : Int32)), (.int (0 : Int32))] 2)
  refine Go.eq (ef_rmMax m ) ?_
  show Go p e below s _ _ _ s₁ (mkF m 0 #[.val (.int (0 : Int32)), .val (.int (0 : Int32))] [])
  refine Go.st (fun _ => XS.iloadN X0.here hx rfl (hb hby d21_0) rfl) ?_
  show Go p e below s _ _ _ s₁ (mkF m 1 #[.val (.int (0 : Int32)), .val (.int (0 : Int32))] [(.int (0 : Int32))])
  refine Go.st (fun _ => XS.iloadN X0.here hx rfl (hb hby d21_1) rfl) ?_
  show Go p e below s _ _ _ s₁ (mkF m 2 #[.val (.int (0 : Int32)), .val (.int (0 : Int32))] [(.int (0 : Int32)), (.int (0 : Int32))])
  refine Go.st (fun _ => XS.icmpNo X0.here hx rfl (hb hby d21_2) rfl (flt (by decide : ¬ ((0 : Int32) < (0 : Int32)))).1) ?_
  show Go p e below s _ _ _ s₁ (mkF m 5 #[.val (.int (0 : Int32)), .val (.int (0 : Int32))] [])
  refine Go.st (fun _ => XS.iloadN X0.here hx rfl (hb hby d21_5) rfl) ?_
  show Go p e below s _ _ _ s₁ (mkF m 6 #[.val (.int (0 : Int32)), .val (.int (0 : Int32))] [(.int (0 : Int32))])
  refine Go.st (fun _ => XS.goto X0.here hx rfl (pc0 := 6) (pc' := 10) rfl (hb hby d21_6) (by decide) (by decide)) ?_
  show Go p e below s _ _ _ s₁ (mkF m 10 #[.val (.int (0 : Int32)), .val (.int (0 : Int32))] [(.int (0 : Int32))])
  exact Go.retI X0 hx hlk Bd.returns (hb hby d21_10) (by rw [e0]; exact ⟨rfl, N0, rfl⟩) (by decide) (by decide)
theorem d22_0 : decode jdk_29_method_69_code 0 = .ok (.iload_n 0, 1) := by decide +kernel
theorem d22_1 : decode jdk_29_method_69_code 1 = .ok (.iload_n 1, 1) := by decide +kernel
theorem d22_2 : decode jdk_29_method_69_code 2 = .ok (.if_icmp .gt 7, 3) := by decide +kernel
theorem d22_5 : decode jdk_29_method_69_code 5 = .ok (.iload_n 0, 1) := by decide +kernel
theorem d22_6 : decode jdk_29_method_69_code 6 = .ok (.goto 4, 3) := by decide +kernel
theorem d22_10 : decode jdk_29_method_69_code 10 = .ok (.ireturn, 1) := by decide +kernel
theorem ef_rmMin (m : MethodId)  : entryFrame m #[(.int (8 : Int32)), (.int (8 : Int32))] 2 = mkF m 0 #[.val (.int (8 : Int32)), .val (.int (8 : Int32))] [] := by first | (simp [entryFrame, mkF, argsToLocals, Value.category]; done) | rfl
def QrmMin (Z : State)  (h0 : Heap) (n0 : Nat) (rV : Option Value) (hE : Heap) (LE : List Loc) : Prop := rV = some (.int (8 : Int32)) ∧ Fr n0 LE ∧ hE = h0
set_option maxRecDepth 65536 in
set_option maxHeartbeats 40000000 in
theorem rmMin (l : Launch) (Z : State) (a0 : Array Value) (hw : ∀ d ∈ tables_1, d.before a0 Z = true) (ws : List Jvm.Cond)  (h0 : Heap) (n0 : Nat) (Z0 : n0 ≤ h0.size) :
    MetFree l (⟨"java/lang/Math", "min", "(II)I"⟩ : MethodName) (head1 (Jvm.Cond.code (⟨"java/lang/Math", "min", "(II)I"⟩ : MethodName) jdk_29_method_69_code 2 (some .int) :: ws) ({ frames := 0, cells := 0, slots := 0, locals := 0 } : Room)) (fun aA UA => aA = #[(.int (8 : Int32)), (.int (8 : Int32))] ∧ Z.Warmed39 UA.vm ∧ UA.heap = h0) (fun _ _ _ _ _ => True) (fun _ UA oA UB => ∃ rV LE, oA = .returned rV ∧ QrmMin Z  h0 n0 rV UB.heap LE ∧ FrameEnd UA oA UB LE ({ frames := 0, cells := 0, slots := 0, locals := 0 } : Room).cells ({ frames := 0, cells := 0, slots := 0, locals := 0 } : Room).slots) := by
  refine MetFree.of_bodySF (Jvm.Free.JP.mathPlain rfl (by decide +kernel)) hisR ?_
  intro p e s m args below meth c s₁ Bd hml0 hP hK
  obtain ⟨rfl, hZ, hh⟩ := hP
  have hx := Bd.exec
  have hby := Bd.bytes
  have hml : c.maxLocals = 2 := hml0
  have hown : s.vm.findClass "java/lang/Math" = some m.cls := findClass_of_methodNamed Bd.named
  have hnm := (name_of_methodNamed Bd.named Bd.method).1
  have hlk := Bd.notSynchronized
  have X0 : Stand p l e ({ frames := 0, cells := 0, slots := 0, locals := 0 } : Room) s m #[(.int (8 : Int32)), (.int (8 : Int32))] below meth c s₁ [] 0 0 := Stand.of_body Bd
  have e0 : s₁.heap = h0 := by rw [← hh, Bd.state]; rfl
  have N0 := Fr.nil n0
  show Go p e below s (QrmMin Z  h0 n0) ({ frames := 0, cells := 0, slots := 0, locals := 0 } : Room).cells ({ frames := 0, cells := 0, slots := 0, locals := 0 } : Room).slots s₁ (entryFrame m #[(.int (8 : Int32)), (.int (8 : Int32))] 2)
  refine Go.eq (ef_rmMin m ) ?_
  show Go p e below s _ _ _ s₁ (mkF m 0 #[.val (.int (8 : Int32)), .val (.int (8 : Int32))] [])
  refine Go.st (fun _ => XS.iloadN X0.here hx rfl (hb hby d22_0) rfl) ?_
  show Go p e below s _ _ _ s₁ (mkF m 1 #[.val (.int (8 : Int32)), .val (.int (8 : Int32))] [(.int (8 : Int32))])
  refine Go.st (fun _ => XS.iloadN X0.here hx rfl (hb hby d22_1) rfl) ?_
  show Go p e below s _ _ _ s₁ (mkF m 2 #[.val (.int (8 : Int32)), .val (.int (8 : Int32))] [(.int (8 : Int32)), (.int (8 : Int32))])
  refine Go.st (fun _ => XS.icmpNo X0.here hx rfl (hb hby d22_2) rfl (flt (by decide : ¬ ((8 : Int32) < (8 : Int32)))).2.2.1) ?_
  show Go p e below s _ _ _ s₁ (mkF m 5 #[.val (.int (8 : Int32)), .val (.int (8 : Int32))] [])
  refine Go.st (fun _ => XS.iloadN X0.here hx rfl (hb hby d22_5) rfl) ?_
  show Go p e below s _ _ _ s₁ (mkF m 6 #[.val (.int (8 : Int32)), .val (.int (8 : Int32))] [(.int (8 : Int32))])
  refine Go.st (fun _ => XS.goto X0.here hx rfl (pc0 := 6) (pc' := 10) rfl (hb hby d22_6) (by decide) (by decide)) ?_
  show Go p e below s _ _ _ s₁ (mkF m 10 #[.val (.int (8 : Int32)), .val (.int (8 : Int32))] [(.int (8 : Int32))])
  exact Go.retI X0 hx hlk Bd.returns (hb hby d22_10) (by rw [e0]; exact ⟨rfl, N0, rfl⟩) (by decide) (by decide)
theorem d13_0 : decode jdk_43_method_2_code 0 = .ok (.iload_n 1, 1) := by decide +kernel
theorem d13_1 : decode jdk_43_method_2_code 1 = .ok (.aload_n 0, 1) := by decide +kernel
theorem d13_2 : decode jdk_43_method_2_code 2 = .ok (.arraylength, 1) := by decide +kernel
theorem d13_3 : decode jdk_43_method_2_code 3 = .ok (.invokestatic 9, 3) := by decide +kernel
theorem pd_4 : parseMethodDescriptor "(II)V" = some ⟨[.int, .int], none⟩ := by decide +kernel
theorem d13_6 : decode jdk_43_method_2_code 6 = .ok (.aload_n 0, 1) := by decide +kernel
theorem d13_7 : decode jdk_43_method_2_code 7 = .ok (.iload_n 1, 1) := by decide +kernel
theorem d13_8 : decode jdk_43_method_2_code 8 = .ok (.baload, 1) := by decide +kernel
theorem d13_9 : decode jdk_43_method_2_code 9 = .ok (.sipush 255, 3) := by decide +kernel
theorem d13_12 : decode jdk_43_method_2_code 12 = .ok (.iand, 1) := by decide +kernel
theorem d13_13 : decode jdk_43_method_2_code 13 = .ok (.i2c, 1) := by decide +kernel
theorem d13_14 : decode jdk_43_method_2_code 14 = .ok (.ireturn, 1) := by decide +kernel
theorem ef_rmLc46 (m : MethodId) (d : Addr) : entryFrame m #[(.ref d), (.int (0 : Int32))] 2 = mkF m 0 #[.val (.ref d), .val (.int (0 : Int32))] [] := by first | (simp [entryFrame, mkF, argsToLocals, Value.category]; done) | rfl
def QrmLc46 (Z : State) (d : Addr) (kd : ClassId) (fm : Value) (h0 : Heap) (n0 : Nat) (rV : Option Value) (hE : Heap) (LE : List Loc) : Prop := rV = some (.int (46 : Int32)) ∧ Fr n0 LE ∧ hE = h0
set_option maxRecDepth 65536 in
set_option maxHeartbeats 40000000 in
theorem rmLc46 (l : Launch) (Z : State) (a0 : Array Value) (hw : ∀ d ∈ tables_1, d.before a0 Z = true) (ws : List Jvm.Cond) (d : Addr) (kd : ClassId) (fm : Value) (h0 : Heap) (n0 : Nat) (Z0 : n0 ≤ h0.size) (S_SIOOBE_FORMATTER : Sta Z h0 "jdk/internal/util/Preconditions" "SIOOBE_FORMATTER" "Ljava/util/function/BiFunction;" fm) (rf_fm : fm.isRef = true) (V_d : Arv Z h0 d kd .byte (1 : Int32) [(.int (46 : Int32))] (.int (0 : Int32))) :
    MetFree l (⟨"java/lang/StringLatin1", "charAt", "([BI)C"⟩ : MethodName) (head1 (Jvm.Cond.code (⟨"java/lang/StringLatin1", "charAt", "([BI)C"⟩ : MethodName) jdk_43_method_2_code 2 (some .char) :: ws) ({ frames := 2, cells := 0, slots := 0, locals := 27 } : Room)) (fun aA UA => aA = #[(.ref d), (.int (0 : Int32))] ∧ Z.Warmed39 UA.vm ∧ UA.heap = h0) (fun _ _ _ _ _ => True) (fun _ UA oA UB => ∃ rV LE, oA = .returned rV ∧ QrmLc46 Z d kd fm h0 n0 rV UB.heap LE ∧ FrameEnd UA oA UB LE ({ frames := 2, cells := 0, slots := 0, locals := 27 } : Room).cells ({ frames := 2, cells := 0, slots := 0, locals := 27 } : Room).slots) := by
  refine MetFree.of_bodySF (plainFor_of_name pn_0) hisR ?_
  intro p e s m args below meth c s₁ Bd hml0 hP hK
  obtain ⟨rfl, hZ, hh⟩ := hP
  have hx := Bd.exec
  have hby := Bd.bytes
  have hml : c.maxLocals = 2 := hml0
  have hown : s.vm.findClass "java/lang/StringLatin1" = some m.cls := findClass_of_methodNamed Bd.named
  have hnm := (name_of_methodNamed Bd.named Bd.method).1
  have hlk := Bd.notSynchronized
  have X0 : Stand p l e ({ frames := 2, cells := 0, slots := 0, locals := 27 } : Room) s m #[(.ref d), (.int (0 : Int32))] below meth c s₁ [] 0 0 := Stand.of_body Bd
  have e0 : s₁.heap = h0 := by rw [← hh, Bd.state]; rfl
  have N0 := Fr.nil n0
  show Go p e below s (QrmLc46 Z d kd fm h0 n0) ({ frames := 2, cells := 0, slots := 0, locals := 27 } : Room).cells ({ frames := 2, cells := 0, slots := 0, locals := 27 } : Room).slots s₁ (entryFrame m #[(.ref d), (.int (0 : Int32))] 2)
  refine Go.eq (ef_rmLc46 m d) ?_
  show Go p e below s _ _ _ s₁ (mkF m 0 #[.val (.ref d), .val (.int (0 : Int32))] [])
  refine Go.st (fun _ => XS.iloadN X0.here hx rfl (hb hby d13_0) rfl) ?_
  show Go p e below s _ _ _ s₁ (mkF m 1 #[.val (.ref d), .val (.int (0 : Int32))] [(.int (0 : Int32))])
  refine Go.st (fun _ => XS.aloadN X0.here hx rfl (hb hby d13_1) rfl rfl) ?_
  show Go p e below s _ _ _ s₁ (mkF m 2 #[.val (.ref d), .val (.int (0 : Int32))] [(.ref d), (.int (0 : Int32))])
  obtain ⟨cl_1, Ar_1, q_1, S_1, M_1, H_1, G_1⟩ := id V_d
  refine Go.st (fun tG => X0.arraylength hx (by rw [e0]; exact Ar_1.1) (State.isArrayOf_alike hZ.alike Ar_1.2.1) (g := (mkF m 2 #[.val (.ref d), .val (.int (0 : Int32))] [(.ref d), (.int (0 : Int32))])) rfl rfl (hb hby d13_2) tG) ?_
  rw [len_of S_1 M_1]
  show Go p e below s _ _ _ s₁ (mkF m 3 #[.val (.ref d), .val (.int (0 : Int32))] [(.int (1 : Int32)), (.int (0 : Int32))])
  obtain ⟨_, _, ⟨T_2, L_2, kc_2, nc_2⟩, -, X_2, ⟨Lc_2, hQ_2, l_2, y_2, z_2⟩, st_2⟩ := Jvm.LawKit.callS X0 hx (y := (⟨"java/lang/String", "checkIndex", "(II)V"⟩ : MethodName)) hown (mvT hZ (hw _ (List.mem_of_getElem? (i := 63) rfl))) (mvT hZ (hw _ (List.mem_of_getElem? (i := 64) rfl))) (mvT hZ (hw _ (List.mem_of_getElem? (i := 8) rfl))) (mvT hZ (hw _ (List.mem_of_getElem? (i := 65) rfl))) (by decide) (backOf (W := 0) (rmChk l Z a0 hw [] fm h0 n0 Z0 S_SIOOBE_FORMATTER rf_fm) hZ (hw _ (List.mem_of_getElem? (i := 65) rfl)) (hw _ (List.mem_of_getElem? (i := 8) rfl)) (by decide) (by decide)) (g := (mkF m 3 #[.val (.ref d), .val (.int (0 : Int32))] [(.int (1 : Int32)), (.int (0 : Int32))])) rfl (by rw [hml]; rfl) (argsL := [(.int (0 : Int32)), (.int (1 : Int32))]) (rest := []) (lenOf pd_4 rfl) rfl (by show 2 * 0 + _ ≤ _; exact Nat.le_of_eq rfl) (hb hby d13_3) (fun _ _ => ⟨rfl, e0, (by decide : 0 + 0 ≤ _), (by decide : 0 + 0 ≤ _)⟩)
  dsimp only [Pt.U, Pt.locs, Pt.cells, Pt.slots] at X_2 l_2 y_2 z_2 st_2 hQ_2
  obtain rfl : kc_2 = 0 := y_2
  obtain rfl : nc_2 = 0 := z_2
  obtain ⟨h_2, e_2⟩ : ∃ hh, T_2.heap = hh := ⟨_, rfl⟩
  rw [e_2] at hQ_2
  obtain ⟨rfl, N_2q, sm_2⟩ := hQ_2
  have N_2 : Fr n0 L_2 := by rw [l_2]; exact Fr.app N0 N_2q
  refine Go.st st_2 ?_
  rw [sm_2] at e_2
  show Go p e below s _ _ _ T_2 (mkF m 6 #[.val (.ref d), .val (.int (0 : Int32))] [])
  refine Go.st (fun _ => XS.aloadN X_2.here hx rfl (hb hby d13_6) rfl rfl) ?_
  show Go p e below s _ _ _ T_2 (mkF m 7 #[.val (.ref d), .val (.int (0 : Int32))] [(.ref d)])
  refine Go.st (fun _ => XS.iloadN X_2.here hx rfl (hb hby d13_7) rfl) ?_
  show Go p e below s _ _ _ T_2 (mkF m 8 #[.val (.ref d), .val (.int (0 : Int32))] [(.int (0 : Int32)), (.ref d)])
  obtain ⟨cl_3, Ar_3, q_3, S_3, M_3, H_3, G_3⟩ := id V_d
  have hin_3 : ¬ ((0 : Int32) < 0 ∨ cl_3.slots.size ≤ ((0 : Int32)).toNatClampNeg) := inb_of S_3 ⟨by decide, by decide⟩
  have hat_3 : cl_3.slots[((0 : Int32)).toNatClampNeg]? = some (.int (46 : Int32)) := H_3.at hin_3 rfl
  refine Go.st (fun tG => X_2.baloadBytes hx (j := (0 : Int32)) (v := (.int (46 : Int32))) (by rw [e_2]; exact Ar_3.1) (State.isArrayOf_alike hZ.alike Ar_3.2.1) Ar_3.2.2 hin_3 hat_3 (g := (mkF m 8 #[.val (.ref d), .val (.int (0 : Int32))] [(.int (0 : Int32)), (.ref d)])) rfl rfl (hb hby d13_8) tG) ?_
  show Go p e below s _ _ _ T_2 (mkF m 9 #[.val (.ref d), .val (.int (0 : Int32))] [(.int (46 : Int32))])
  refine Go.st (fun _ => XS.sipush X_2.here hx rfl (hb hby d13_9)) ?_
  show Go p e below s _ _ _ T_2 (mkF m 12 #[.val (.ref d), .val (.int (0 : Int32))] [(.int (255 : Int32)), (.int (46 : Int32))])
  refine Go.st (fun _ => XS.iand X_2.here hx rfl (hb hby d13_12) rfl) ?_
  show Go p e below s _ _ _ T_2 (mkF m 13 #[.val (.ref d), .val (.int (0 : Int32))] [(.int ((46 : Int32) &&& (255 : Int32)))])
  rw [show ((46 : Int32) &&& (255 : Int32)) = (46 : Int32) from by decide]
  show Go p e below s _ _ _ T_2 (mkF m 13 #[.val (.ref d), .val (.int (0 : Int32))] [(.int (46 : Int32))])
  refine Go.st (fun _ => XS.i2c X_2.here hx rfl (hb hby d13_13) rfl) ?_
  show Go p e below s _ _ _ T_2 (mkF m 14 #[.val (.ref d), .val (.int (0 : Int32))] [(.int ((46 : Int32).toUInt32.toUInt16.toUInt32.toInt32))])
  rw [show ((46 : Int32).toUInt32.toUInt16.toUInt32.toInt32) = (46 : Int32) from by decide]
  show Go p e below s _ _ _ T_2 (mkF m 14 #[.val (.ref d), .val (.int (0 : Int32))] [(.int (46 : Int32))])
  exact Go.retC X_2 hx hlk Bd.returns (hb hby d13_14) rfl (by rw [e_2]; exact ⟨rfl, N_2, rfl⟩) (by decide) (by decide)
theorem d11_0 : decode jdk_42_method_56_code 0 = .ok (.aload_n 0, 1) := by decide +kernel
theorem d11_1 : decode jdk_42_method_56_code 1 = .ok (.invokevirtual 492, 3) := by decide +kernel
theorem pd_5 : parseMethodDescriptor "()Z" = some ⟨[], some .boolean⟩ := by decide +kernel
theorem d11_4 : decode jdk_42_method_56_code 4 = .ok (.ifCond .eq 12, 3) := by decide +kernel
theorem d11_7 : decode jdk_42_method_56_code 7 = .ok (.aload_n 0, 1) := by decide +kernel
theorem d11_8 : decode jdk_42_method_56_code 8 = .ok (.getfield 9, 3) := by decide +kernel
theorem d11_11 : decode jdk_42_method_56_code 11 = .ok (.iload_n 1, 1) := by decide +kernel
theorem d11_12 : decode jdk_42_method_56_code 12 = .ok (.invokestatic 495, 3) := by decide +kernel
theorem pd_6 : parseMethodDescriptor "([BI)C" = some ⟨[(.array .byte), .int], some .char⟩ := by decide +kernel
theorem d11_15 : decode jdk_42_method_56_code 15 = .ok (.ireturn, 1) := by decide +kernel
theorem ef_rmCa46 (m : MethodId) (a : Addr) : entryFrame m #[(.ref a), (.int (0 : Int32))] 2 = mkF m 0 #[.val (.ref a), .val (.int (0 : Int32))] [] := by first | (simp [entryFrame, mkF, argsToLocals, Value.category]; done) | rfl
def QrmCa46 (Z : State) (a : Addr) (cs : Int32) (d : Addr) (kd : ClassId) (fm : Value) (h0 : Heap) (n0 : Nat) (rV : Option Value) (hE : Heap) (LE : List Loc) : Prop := rV = some (.int (46 : Int32)) ∧ Fr n0 LE ∧ hE = h0
set_option maxRecDepth 65536 in
set_option maxHeartbeats 40000000 in
theorem rmCa46 (l : Launch) (Z : State) (a0 : Array Value) (hw : ∀ d ∈ tables_1, d.before a0 Z = true) (ws : List Jvm.Cond) (a : Addr) (cs : Int32) (d : Addr) (kd : ClassId) (fm : Value) (h0 : Heap) (n0 : Nat) (Z0 : n0 ≤ h0.size) (S_COMPACT_STRINGS : Sta Z h0 "java/lang/String" "COMPACT_STRINGS" "Z" (.int cs)) (hcs : ¬ (cs = (0 : Int32))) (S_SIOOBE_FORMATTER : Sta Z h0 "jdk/internal/util/Preconditions" "SIOOBE_FORMATTER" "Ljava/util/function/BiFunction;" fm) (rf_fm : fm.isRef = true) (E_a : Exa Z h0 a "java/lang/String") (F_coder_a : Fld Z h0 a "java/lang/String" "coder" "B" (.int (0 : Int32))) (F_value_a : Fld Z h0 a "java/lang/String" "value" "[B" (.ref d)) (V_d : Arv Z h0 d kd .byte (1 : Int32) [(.int (46 : Int32))] (.int (0 : Int32))) :
    MetFree l (⟨"java/lang/String", "charAt", "(I)C"⟩ : MethodName) (head1 (Jvm.Cond.code (⟨"java/lang/String", "charAt", "(I)C"⟩ : MethodName) jdk_42_method_56_code 2 (some .char) :: ws) ({ frames := 3, cells := 0, slots := 0, locals := 40 } : Room)) (fun aA UA => aA = #[(.ref a), (.int (0 : Int32))] ∧ Z.Warmed39 UA.vm ∧ UA.heap = h0) (fun _ _ _ _ _ => True) (fun _ UA oA UB => ∃ rV LE, oA = .returned rV ∧ QrmCa46 Z a cs d kd fm h0 n0 rV UB.heap LE ∧ FrameEnd UA oA UB LE ({ frames := 3, cells := 0, slots := 0, locals := 40 } : Room).cells ({ frames := 3, cells := 0, slots := 0, locals := 40 } : Room).slots) := by
  refine MetFree.of_bodySF (plainFor_of_name pn_1) hisR ?_
  intro p e s m args below meth c s₁ Bd hml0 hP hK
  obtain ⟨rfl, hZ, hh⟩ := hP
  have hx := Bd.exec
  have hby := Bd.bytes
  have hml : c.maxLocals = 2 := hml0
  have hown : s.vm.findClass "java/lang/String" = some m.cls := findClass_of_methodNamed Bd.named
  have hnm := (name_of_methodNamed Bd.named Bd.method).1
  have hlk := Bd.notSynchronized
  have X0 : Stand p l e ({ frames := 3, cells := 0, slots := 0, locals := 40 } : Room) s m #[(.ref a), (.int (0 : Int32))] below meth c s₁ [] 0 0 := Stand.of_body Bd
  have e0 : s₁.heap = h0 := by rw [← hh, Bd.state]; rfl
  have N0 := Fr.nil n0
  show Go p e below s (QrmCa46 Z a cs d kd fm h0 n0) ({ frames := 3, cells := 0, slots := 0, locals := 40 } : Room).cells ({ frames := 3, cells := 0, slots := 0, locals := 40 } : Room).slots s₁ (entryFrame m #[(.ref a), (.int (0 : Int32))] 2)
  refine Go.eq (ef_rmCa46 m a) ?_
  show Go p e below s _ _ _ s₁ (mkF m 0 #[.val (.ref a), .val (.int (0 : Int32))] [])
  refine Go.st (fun _ => XS.aloadN X0.here hx rfl (hb hby d11_0) rfl rfl) ?_
  show Go p e below s _ _ _ s₁ (mkF m 1 #[.val (.ref a), .val (.int (0 : Int32))] [(.ref a)])
  obtain ⟨cq_1, kq_1, q_1a, q_1b, q_1c⟩ := isOf hZ e0 E_a
  obtain ⟨_, _, ⟨T_1, L_1, kc_1, nc_1⟩, -, X_1, ⟨Lc_1, hQ_1, l_1, y_1, z_1⟩, st_1⟩ := X0.virtualBack hx (y := (⟨"java/lang/String", "isLatin1", "()Z"⟩ : MethodName)) (z := (⟨"java/lang/String", "isLatin1", "()Z"⟩ : MethodName)) hown (mvT hZ (hw _ (List.mem_of_getElem? (i := 55) rfl))) (mvT hZ (hw _ (List.mem_of_getElem? (i := 56) rfl))) (notFace_of_selects (args := #[]) (mvT hZ (hw _ (List.mem_of_getElem? (i := 58) rfl)))) (mvT hZ (hw _ (List.mem_of_getElem? (i := 58) rfl))) (mvT hZ (hw _ (List.mem_of_getElem? (i := 57) rfl))) (by decide) (backOf (W := 0) (rmLat l Z a0 hw [] a cs h0 n0 Z0 S_COMPACT_STRINGS hcs F_coder_a) hZ (hw _ (List.mem_of_getElem? (i := 59) rfl)) (hw _ (List.mem_of_getElem? (i := 8) rfl)) (by decide) (by decide)) q_1a q_1c (g := (mkF m 1 #[.val (.ref a), .val (.int (0 : Int32))] [(.ref a)])) rfl (by rw [hml]; rfl) (Steps.refl _) (argsL := []) (rest := []) (lenOf pd_5 rfl) rfl (by show 2 * 0 + _ ≤ _; exact Nat.le_of_eq rfl) (hb hby d11_1) (fun _ _ => ⟨rfl, e0, (by decide : 0 + 0 ≤ _), (by decide : 0 + 0 ≤ _)⟩)
  dsimp only [Pt.U, Pt.locs, Pt.cells, Pt.slots] at X_1 l_1 y_1 z_1 st_1 hQ_1
  obtain rfl : kc_1 = 0 := y_1
  obtain rfl : nc_1 = 0 := z_1
  obtain ⟨h_1, e_1⟩ : ∃ hh, T_1.heap = hh := ⟨_, rfl⟩
  rw [e_1] at hQ_1
  obtain ⟨rfl, N_1q, sm_1⟩ := hQ_1
  have N_1 : Fr n0 L_1 := by rw [l_1]; exact Fr.app N0 N_1q
  refine Go.st (fun _ kk => st_1.trans kk) ?_
  rw [sm_1] at e_1
  show Go p e below s _ _ _ T_1 (mkF m 4 #[.val (.ref a), .val (.int (0 : Int32))] [(.int (1 : Int32))])
  refine Go.st (fun _ => XS.ifNo X_1.here hx rfl (hb hby d11_4) rfl ((if0 _ _).trans (feq (by decide : ¬ ((1 : Int32) = (0 : Int32)))).1)) ?_
  show Go p e below s _ _ _ T_1 (mkF m 7 #[.val (.ref a), .val (.int (0 : Int32))] [])
  refine Go.st (fun _ => XS.aloadN X_1.here hx rfl (hb hby d11_7) rfl rfl) ?_
  show Go p e below s _ _ _ T_1 (mkF m 8 #[.val (.ref a), .val (.int (0 : Int32))] [(.ref a)])
  obtain ⟨T_2, X_2, e_2, st_2⟩ := getF X_1 hx hZ hown (host := "") (Or.inl (hw _ (List.mem_of_getElem? (i := 28) rfl))) Via.refl e_1 F_value_a (g := (mkF m 8 #[.val (.ref a), .val (.int (0 : Int32))] [(.ref a)])) rfl rfl (hb hby d11_8)
  refine Go.st st_2 ?_
  show Go p e below s _ _ _ T_2 (mkF m 11 #[.val (.ref a), .val (.int (0 : Int32))] [(.ref d)])
  refine Go.st (fun _ => XS.iloadN X_2.here hx rfl (hb hby d11_11) rfl) ?_
  show Go p e below s _ _ _ T_2 (mkF m 12 #[.val (.ref a), .val (.int (0 : Int32))] [(.int (0 : Int32)), (.ref d)])
  obtain ⟨_, _, ⟨T_3, L_3, kc_3, nc_3⟩, -, X_3, ⟨Lc_3, hQ_3, l_3, y_3, z_3⟩, st_3⟩ := Jvm.LawKit.callS X_2 hx (y := (⟨"java/lang/StringLatin1", "charAt", "([BI)C"⟩ : MethodName)) hown (mvT hZ (hw _ (List.mem_of_getElem? (i := 60) rfl))) (mvT hZ (hw _ (List.mem_of_getElem? (i := 61) rfl))) (mvT hZ (hw _ (List.mem_of_getElem? (i := 13) rfl))) (mvT hZ (hw _ (List.mem_of_getElem? (i := 62) rfl))) (by decide) (backOf (W := 0) (rmLc46 l Z a0 hw [] d kd fm h0 n0 Z0 S_SIOOBE_FORMATTER rf_fm V_d) hZ (hw _ (List.mem_of_getElem? (i := 62) rfl)) (hw _ (List.mem_of_getElem? (i := 13) rfl)) (by decide) (by decide)) (g := (mkF m 12 #[.val (.ref a), .val (.int (0 : Int32))] [(.int (0 : Int32)), (.ref d)])) rfl (by rw [hml]; rfl) (argsL := [(.ref d), (.int (0 : Int32))]) (rest := []) (lenOf pd_6 rfl) rfl (by show 2 * 0 + _ ≤ _; exact Nat.le_of_eq rfl) (hb hby d11_12) (fun _ _ => ⟨rfl, e_2, (by decide : 0 + 0 ≤ _), (by decide : 0 + 0 ≤ _)⟩)
  dsimp only [Pt.U, Pt.locs, Pt.cells, Pt.slots] at X_3 l_3 y_3 z_3 st_3 hQ_3
  obtain rfl : kc_3 = 0 := y_3
  obtain rfl : nc_3 = 0 := z_3
  obtain ⟨h_3, e_3⟩ : ∃ hh, T_3.heap = hh := ⟨_, rfl⟩
  rw [e_3] at hQ_3
  obtain ⟨rfl, N_3q, sm_3⟩ := hQ_3
  have N_3 : Fr n0 L_3 := by rw [l_3]; exact Fr.app N_1 N_3q
  refine Go.st st_3 ?_
  rw [sm_3] at e_3
  show Go p e below s _ _ _ T_3 (mkF m 15 #[.val (.ref a), .val (.int (0 : Int32))] [(.int (46 : Int32))])
  exact Go.retC X_3 hx hlk Bd.returns (hb hby d11_15) rfl (by rw [e_3]; exact ⟨rfl, N_3, rfl⟩) (by decide) (by decide)
theorem d20_0 : decode jdk_43_method_4_code 0 = .ok (.iload_n 0, 1) := by decide +kernel
theorem d20_1 : decode jdk_43_method_4_code 1 = .ok (.ifCond .lt 14, 3) := by decide +kernel
theorem d20_4 : decode jdk_43_method_4_code 4 = .ok (.iload_n 0, 1) := by decide +kernel
theorem d20_5 : decode jdk_43_method_4_code 5 = .ok (.sipush 255, 3) := by decide +kernel
theorem d20_8 : decode jdk_43_method_4_code 8 = .ok (.if_icmp .gt 7, 3) := by decide +kernel
theorem d20_11 : decode jdk_43_method_4_code 11 = .ok (.iconst 1, 1) := by decide +kernel
theorem d20_12 : decode jdk_43_method_4_code 12 = .ok (.goto 4, 3) := by decide +kernel
theorem d20_16 : decode jdk_43_method_4_code 16 = .ok (.ireturn, 1) := by decide +kernel
theorem ef_rmCe46 (m : MethodId)  : entryFrame m #[(.int (46 : Int32))] 1 = mkF m 0 #[.val (.int (46 : Int32))] [] := by first | (simp [entryFrame, mkF, argsToLocals, Value.category]; done) | rfl
def QrmCe46 (Z : State)  (h0 : Heap) (n0 : Nat) (rV : Option Value) (hE : Heap) (LE : List Loc) : Prop := rV = some (.int (1 : Int32)) ∧ Fr n0 LE ∧ hE = h0
set_option maxRecDepth 65536 in
set_option maxHeartbeats 40000000 in
theorem rmCe46 (l : Launch) (Z : State) (a0 : Array Value) (hw : ∀ d ∈ tables_1, d.before a0 Z = true) (ws : List Jvm.Cond)  (h0 : Heap) (n0 : Nat) (Z0 : n0 ≤ h0.size) :
    MetFree l (⟨"java/lang/StringLatin1", "canEncode", "(I)Z"⟩ : MethodName) (head1 (Jvm.Cond.code (⟨"java/lang/StringLatin1", "canEncode", "(I)Z"⟩ : MethodName) jdk_43_method_4_code 1 (some .boolean) :: ws) ({ frames := 0, cells := 0, slots := 0, locals := 0 } : Room)) (fun aA UA => aA = #[(.int (46 : Int32))] ∧ Z.Warmed39 UA.vm ∧ UA.heap = h0) (fun _ _ _ _ _ => True) (fun _ UA oA UB => ∃ rV LE, oA = .returned rV ∧ QrmCe46 Z  h0 n0 rV UB.heap LE ∧ FrameEnd UA oA UB LE ({ frames := 0, cells := 0, slots := 0, locals := 0 } : Room).cells ({ frames := 0, cells := 0, slots := 0, locals := 0 } : Room).slots) := by
  refine MetFree.of_bodySF (plainFor_of_name pn_0) hisR ?_
  intro p e s m args below meth c s₁ Bd hml0 hP hK
  obtain ⟨rfl, hZ, hh⟩ := hP
  have hx := Bd.exec
  have hby := Bd.bytes
  have hml : c.maxLocals = 1 := hml0
  have hown : s.vm.findClass "java/lang/StringLatin1" = some m.cls := findClass_of_methodNamed Bd.named
  have hnm := (name_of_methodNamed Bd.named Bd.method).1
  have hlk := Bd.notSynchronized
  have X0 : Stand p l e ({ frames := 0, cells := 0, slots := 0, locals := 0 } : Room) s m #[(.int (46 : Int32))] below meth c s₁ [] 0 0 := Stand.of_body Bd
  have e0 : s₁.heap = h0 := by rw [← hh, Bd.state]; rfl
  have N0 := Fr.nil n0
  show Go p e below s (QrmCe46 Z  h0 n0) ({ frames := 0, cells := 0, slots := 0, locals := 0 } : Room).cells ({ frames := 0, cells := 0, slots := 0, locals := 0 } : Room).slots s₁ (entryFrame m #[(.int (46 : Int32))] 1)
  refine Go.eq (ef_rmCe46 m ) ?_
  show Go p e below s _ _ _ s₁ (mkF m 0 #[.val (.int (46 : Int32))] [])
  refine Go.st (fun _ => XS.iloadN X0.here hx rfl (hb hby d20_0) rfl) ?_
  show Go p e below s _ _ _ s₁ (mkF m 1 #[.val (.int (46 : Int32))] [(.int (46 : Int32))])
  refine Go.st (fun _ => XS.ifNo X0.here hx rfl (hb hby d20_1) rfl ((if0 _ _).trans (flt (by decide : ¬ ((46 : Int32) < (0 : Int32)))).1)) ?_
  show Go p e below s _ _ _ s₁ (mkF m 4 #[.val (.int (46 : Int32))] [])
  refine Go.st (fun _ => XS.iloadN X0.here hx rfl (hb hby d20_4) rfl) ?_
  show Go p e below s _ _ _ s₁ (mkF m 5 #[.val (.int (46 : Int32))] [(.int (46 : Int32))])
  refine Go.st (fun _ => XS.sipush X0.here hx rfl (hb hby d20_5)) ?_
  show Go p e below s _ _ _ s₁ (mkF m 8 #[.val (.int (46 : Int32))] [(.int (255 : Int32)), (.int (46 : Int32))])
  refine Go.st (fun _ => XS.icmpNo X0.here hx rfl (hb hby d20_8) rfl (flt (by decide : ¬ ((255 : Int32) < (46 : Int32)))).2.2.1) ?_
  show Go p e below s _ _ _ s₁ (mkF m 11 #[.val (.int (46 : Int32))] [])
  refine Go.st (fun _ => XS.iconst X0.here hx rfl (hb hby d20_11)) ?_
  show Go p e below s _ _ _ s₁ (mkF m 12 #[.val (.int (46 : Int32))] [(.int (1 : Int32))])
  refine Go.st (fun _ => XS.goto X0.here hx rfl (pc0 := 12) (pc' := 16) rfl (hb hby d20_12) (by decide) (by decide)) ?_
  show Go p e below s _ _ _ s₁ (mkF m 16 #[.val (.int (46 : Int32))] [(.int (1 : Int32))])
  exact Go.retZ X0 hx hlk Bd.returns (hb hby d20_16) rfl (by rw [e0]; exact ⟨rfl, N0, rfl⟩) (by decide) (by decide)
theorem d23_0 : decode jdk_43_method_23_code 0 = .ok (.iload_n 1, 1) := by decide +kernel
theorem d23_1 : decode jdk_43_method_23_code 1 = .ok (.i2b, 1) := by decide +kernel
theorem d23_2 : decode jdk_43_method_23_code 2 = .ok (.istore 4, 2) := by decide +kernel
theorem d23_4 : decode jdk_43_method_23_code 4 = .ok (.iload_n 2, 1) := by decide +kernel
theorem d23_5 : decode jdk_43_method_23_code 5 = .ok (.istore 5, 2) := by decide +kernel
theorem d23_7 : decode jdk_43_method_23_code 7 = .ok (.iload 5, 2) := by decide +kernel
theorem d23_9 : decode jdk_43_method_23_code 9 = .ok (.iload_n 3, 1) := by decide +kernel
theorem d23_10 : decode jdk_43_method_23_code 10 = .ok (.if_icmp .ge 21, 3) := by decide +kernel
theorem d23_13 : decode jdk_43_method_23_code 13 = .ok (.aload_n 0, 1) := by decide +kernel
theorem d23_14 : decode jdk_43_method_23_code 14 = .ok (.iload 5, 2) := by decide +kernel
theorem d23_16 : decode jdk_43_method_23_code 16 = .ok (.baload, 1) := by decide +kernel
theorem d23_17 : decode jdk_43_method_23_code 17 = .ok (.iload 4, 2) := by decide +kernel
theorem d23_19 : decode jdk_43_method_23_code 19 = .ok (.if_icmp .ne 6, 3) := by decide +kernel
theorem d23_25 : decode jdk_43_method_23_code 25 = .ok (.iinc 5 1, 3) := by decide +kernel
theorem d23_28 : decode jdk_43_method_23_code 28 = .ok (.goto (-21), 3) := by decide +kernel
theorem d23_22 : decode jdk_43_method_23_code 22 = .ok (.iload 5, 2) := by decide +kernel
theorem d23_24 : decode jdk_43_method_23_code 24 = .ok (.ireturn, 1) := by decide +kernel
theorem ef_rmIc46 (m : MethodId) (d : Addr) : entryFrame m #[(.ref d), (.int (46 : Int32)), (.int (0 : Int32)), (.int (8 : Int32))] 6 = mkF m 0 #[.val (.ref d), .val (.int (46 : Int32)), .val (.int (0 : Int32)), .val (.int (8 : Int32)), .unset, .unset] [] := by first | (simp [entryFrame, mkF, argsToLocals, Value.category]; done) | rfl
def QrmIc46 (Z : State) (d : Addr) (kd : ClassId) (h0 : Heap) (n0 : Nat) (rV : Option Value) (hE : Heap) (LE : List Loc) : Prop := rV = some (.int (5 : Int32)) ∧ Fr n0 LE ∧ hE = h0
set_option maxRecDepth 65536 in
set_option maxHeartbeats 40000000 in
theorem rmIc46 (l : Launch) (Z : State) (a0 : Array Value) (hw : ∀ d ∈ tables_1, d.before a0 Z = true) (ws : List Jvm.Cond) (d : Addr) (kd : ClassId) (h0 : Heap) (n0 : Nat) (Z0 : n0 ≤ h0.size) (V_d : Arv Z h0 d kd .byte (8 : Int32) [(.int (43 : Int32)), (.int (47 : Int32)), (.int (61 : Int32)), (.int (45 : Int32)), (.int (124 : Int32)), (.int (46 : Int32)), (.int (95 : Int32)), (.int (35 : Int32))] (.int (0 : Int32))) :
    MetFree l (⟨"java/lang/StringLatin1", "indexOfChar", "([BIII)I"⟩ : MethodName) (head1 (Jvm.Cond.code (⟨"java/lang/StringLatin1", "indexOfChar", "([BIII)I"⟩ : MethodName) jdk_43_method_23_code 6 (some .int) :: ws) ({ frames := 0, cells := 0, slots := 0, locals := 0 } : Room)) (fun aA UA => aA = #[(.ref d), (.int (46 : Int32)), (.int (0 : Int32)), (.int (8 : Int32))] ∧ Z.Warmed39 UA.vm ∧ UA.heap = h0) (fun _ _ _ _ _ => True) (fun _ UA oA UB => ∃ rV LE, oA = .returned rV ∧ QrmIc46 Z d kd h0 n0 rV UB.heap LE ∧ FrameEnd UA oA UB LE ({ frames := 0, cells := 0, slots := 0, locals := 0 } : Room).cells ({ frames := 0, cells := 0, slots := 0, locals := 0 } : Room).slots) := by
  refine MetFree.of_bodySF (plainFor_of_name pn_0) hisR ?_
  intro p e s m args below meth c s₁ Bd hml0 hP hK
  obtain ⟨rfl, hZ, hh⟩ := hP
  have hx := Bd.exec
  have hby := Bd.bytes
  have hml : c.maxLocals = 6 := hml0
  have hown : s.vm.findClass "java/lang/StringLatin1" = some m.cls := findClass_of_methodNamed Bd.named
  have hnm := (name_of_methodNamed Bd.named Bd.method).1
  have hlk := Bd.notSynchronized
  have X0 : Stand p l e ({ frames := 0, cells := 0, slots := 0, locals := 0 } : Room) s m #[(.ref d), (.int (46 : Int32)), (.int (0 : Int32)), (.int (8 : Int32))] below meth c s₁ [] 0 0 := Stand.of_body Bd
  have e0 : s₁.heap = h0 := by rw [← hh, Bd.state]; rfl
  have N0 := Fr.nil n0
  show Go p e below s (QrmIc46 Z d kd h0 n0) ({ frames := 0, cells := 0, slots := 0, locals := 0 } : Room).cells ({ frames := 0, cells := 0, slots := 0, locals := 0 } : Room).slots s₁ (entryFrame m #[(.ref d), (.int (46 : Int32)), (.int (0 : Int32)), (.int (8 : Int32))] 6)
  refine Go.eq (ef_rmIc46 m d) ?_
  show Go p e below s _ _ _ s₁ (mkF m 0 #[.val (.ref d), .val (.int (46 : Int32)), .val (.int (0 : Int32)), .val (.int (8 : Int32)), .unset, .unset] [])
  refine Go.st (fun _ => XS.iloadN X0.here hx rfl (hb hby d23_0) rfl) ?_
  show Go p e below s _ _ _ s₁ (mkF m 1 #[.val (.ref d), .val (.int (46 : Int32)), .val (.int (0 : Int32)), .val (.int (8 : Int32)), .unset, .unset] [(.int (46 : Int32))])
  refine Go.st (fun _ => XS.i2b X0.here hx rfl (hb hby d23_1) rfl) ?_
  show Go p e below s _ _ _ s₁ (mkF m 2 #[.val (.ref d), .val (.int (46 : Int32)), .val (.int (0 : Int32)), .val (.int (8 : Int32)), .unset, .unset] [(.int ((46 : Int32).toInt8.toInt32))])
  rw [show ((46 : Int32).toInt8.toInt32) = (46 : Int32) from by decide]
  show Go p e below s _ _ _ s₁ (mkF m 2 #[.val (.ref d), .val (.int (46 : Int32)), .val (.int (0 : Int32)), .val (.int (8 : Int32)), .unset, .unset] [(.int (46 : Int32))])
  refine Go.st (fun _ => XS.istore X0.here hx rfl (hb hby d23_2) rfl (l' := #[.val (.ref d), .val (.int (46 : Int32)), .val (.int (0 : Int32)), .val (.int (8 : Int32)), .val (.int (46 : Int32)), .unset]) rfl) ?_
  show Go p e below s _ _ _ s₁ (mkF m 4 #[.val (.ref d), .val (.int (46 : Int32)), .val (.int (0 : Int32)), .val (.int (8 : Int32)), .val (.int (46 : Int32)), .unset] [])
  refine Go.st (fun _ => XS.iloadN X0.here hx rfl (hb hby d23_4) rfl) ?_
  show Go p e below s _ _ _ s₁ (mkF m 5 #[.val (.ref d), .val (.int (46 : Int32)), .val (.int (0 : Int32)), .val (.int (8 : Int32)), .val (.int (46 : Int32)), .unset] [(.int (0 : Int32))])
  refine Go.st (fun _ => XS.istore X0.here hx rfl (hb hby d23_5) rfl (l' := #[.val (.ref d), .val (.int (46 : Int32)), .val (.int (0 : Int32)), .val (.int (8 : Int32)), .val (.int (46 : Int32)), .val (.int (0 : Int32))]) rfl) ?_
  show Go p e below s _ _ _ s₁ (mkF m 7 #[.val (.ref d), .val (.int (46 : Int32)), .val (.int (0 : Int32)), .val (.int (8 : Int32)), .val (.int (46 : Int32)), .val (.int (0 : Int32))] [])
  refine Go.st (fun _ => XS.iload X0.here hx rfl (hb hby d23_7) rfl) ?_
  show Go p e below s _ _ _ s₁ (mkF m 9 #[.val (.ref d), .val (.int (46 : Int32)), .val (.int (0 : Int32)), .val (.int (8 : Int32)), .val (.int (46 : Int32)), .val (.int (0 : Int32))] [(.int (0 : Int32))])
  refine Go.st (fun _ => XS.iloadN X0.here hx rfl (hb hby d23_9) rfl) ?_
  show Go p e below s _ _ _ s₁ (mkF m 10 #[.val (.ref d), .val (.int (46 : Int32)), .val (.int (0 : Int32)), .val (.int (8 : Int32)), .val (.int (46 : Int32)), .val (.int (0 : Int32))] [(.int (8 : Int32)), (.int (0 : Int32))])
  refine Go.st (fun _ => XS.icmpNo X0.here hx rfl (hb hby d23_10) rfl (tlt (by decide : (0 : Int32) < (8 : Int32))).2.1) ?_
  show Go p e below s _ _ _ s₁ (mkF m 13 #[.val (.ref d), .val (.int (46 : Int32)), .val (.int (0 : Int32)), .val (.int (8 : Int32)), .val (.int (46 : Int32)), .val (.int (0 : Int32))] [])
  refine Go.st (fun _ => XS.aloadN X0.here hx rfl (hb hby d23_13) rfl rfl) ?_
  show Go p e below s _ _ _ s₁ (mkF m 14 #[.val (.ref d), .val (.int (46 : Int32)), .val (.int (0 : Int32)), .val (.int (8 : Int32)), .val (.int (46 : Int32)), .val (.int (0 : Int32))] [(.ref d)])
  refine Go.st (fun _ => XS.iload X0.here hx rfl (hb hby d23_14) rfl) ?_
  show Go p e below s _ _ _ s₁ (mkF m 16 #[.val (.ref d), .val (.int (46 : Int32)), .val (.int (0 : Int32)), .val (.int (8 : Int32)), .val (.int (46 : Int32)), .val (.int (0 : Int32))] [(.int (0 : Int32)), (.ref d)])
  obtain ⟨cl_1, Ar_1, q_1, S_1, M_1, H_1, G_1⟩ := id V_d
  have hin_1 : ¬ ((0 : Int32) < 0 ∨ cl_1.slots.size ≤ ((0 : Int32)).toNatClampNeg) := inb_of S_1 ⟨by decide, by decide⟩
  have hat_1 : cl_1.slots[((0 : Int32)).toNatClampNeg]? = some (.int (43 : Int32)) := H_1.at hin_1 rfl
  refine Go.st (fun tG => X0.baloadBytes hx (j := (0 : Int32)) (v := (.int (43 : Int32))) (by rw [e0]; exact Ar_1.1) (State.isArrayOf_alike hZ.alike Ar_1.2.1) Ar_1.2.2 hin_1 hat_1 (g := (mkF m 16 #[.val (.ref d), .val (.int (46 : Int32)), .val (.int (0 : Int32)), .val (.int (8 : Int32)), .val (.int (46 : Int32)), .val (.int (0 : Int32))] [(.int (0 : Int32)), (.ref d)])) rfl rfl (hb hby d23_16) tG) ?_
  show Go p e below s _ _ _ s₁ (mkF m 17 #[.val (.ref d), .val (.int (46 : Int32)), .val (.int (0 : Int32)), .val (.int (8 : Int32)), .val (.int (46 : Int32)), .val (.int (0 : Int32))] [(.int (43 : Int32))])
  refine Go.st (fun _ => XS.iload X0.here hx rfl (hb hby d23_17) rfl) ?_
  show Go p e below s _ _ _ s₁ (mkF m 19 #[.val (.ref d), .val (.int (46 : Int32)), .val (.int (0 : Int32)), .val (.int (8 : Int32)), .val (.int (46 : Int32)), .val (.int (0 : Int32))] [(.int (46 : Int32)), (.int (43 : Int32))])
  refine Go.st (fun _ => XS.icmpYes X0.here hx rfl (pc0 := 19) (pc' := 25) rfl (hb hby d23_19) rfl (feq (by decide : ¬ ((43 : Int32) = (46 : Int32)))).2 (by decide) (by decide)) ?_
  show Go p e below s _ _ _ s₁ (mkF m 25 #[.val (.ref d), .val (.int (46 : Int32)), .val (.int (0 : Int32)), .val (.int (8 : Int32)), .val (.int (46 : Int32)), .val (.int (0 : Int32))] [])
  refine Go.st (fun _ => XS.iinc X0.here hx rfl (hb hby d23_25) rfl (l' := #[.val (.ref d), .val (.int (46 : Int32)), .val (.int (0 : Int32)), .val (.int (8 : Int32)), .val (.int (46 : Int32)), .val (.int ((0 : Int32) + (1 : Int32)))]) rfl) ?_
  show Go p e below s _ _ _ s₁ (mkF m 28 #[.val (.ref d), .val (.int (46 : Int32)), .val (.int (0 : Int32)), .val (.int (8 : Int32)), .val (.int (46 : Int32)), .val (.int ((0 : Int32) + (1 : Int32)))] [])
  rw [show ((0 : Int32) + (1 : Int32)) = (1 : Int32) from by decide]
  show Go p e below s _ _ _ s₁ (mkF m 28 #[.val (.ref d), .val (.int (46 : Int32)), .val (.int (0 : Int32)), .val (.int (8 : Int32)), .val (.int (46 : Int32)), .val (.int (1 : Int32))] [])
  refine Go.st (fun _ => XS.goto X0.here hx rfl (pc0 := 28) (pc' := 7) rfl (hb hby d23_28) (by decide) (by decide)) ?_
  show Go p e below s _ _ _ s₁ (mkF m 7 #[.val (.ref d), .val (.int (46 : Int32)), .val (.int (0 : Int32)), .val (.int (8 : Int32)), .val (.int (46 : Int32)), .val (.int (1 : Int32))] [])
  refine Go.st (fun _ => XS.iload X0.here hx rfl (hb hby d23_7) rfl) ?_
  show Go p e below s _ _ _ s₁ (mkF m 9 #[.val (.ref d), .val (.int (46 : Int32)), .val (.int (0 : Int32)), .val (.int (8 : Int32)), .val (.int (46 : Int32)), .val (.int (1 : Int32))] [(.int (1 : Int32))])
  refine Go.st (fun _ => XS.iloadN X0.here hx rfl (hb hby d23_9) rfl) ?_
  show Go p e below s _ _ _ s₁ (mkF m 10 #[.val (.ref d), .val (.int (46 : Int32)), .val (.int (0 : Int32)), .val (.int (8 : Int32)), .val (.int (46 : Int32)), .val (.int (1 : Int32))] [(.int (8 : Int32)), (.int (1 : Int32))])
  refine Go.st (fun _ => XS.icmpNo X0.here hx rfl (hb hby d23_10) rfl (tlt (by decide : (1 : Int32) < (8 : Int32))).2.1) ?_
  show Go p e below s _ _ _ s₁ (mkF m 13 #[.val (.ref d), .val (.int (46 : Int32)), .val (.int (0 : Int32)), .val (.int (8 : Int32)), .val (.int (46 : Int32)), .val (.int (1 : Int32))] [])
  refine Go.st (fun _ => XS.aloadN X0.here hx rfl (hb hby d23_13) rfl rfl) ?_
  show Go p e below s _ _ _ s₁ (mkF m 14 #[.val (.ref d), .val (.int (46 : Int32)), .val (.int (0 : Int32)), .val (.int (8 : Int32)), .val (.int (46 : Int32)), .val (.int (1 : Int32))] [(.ref d)])
  refine Go.st (fun _ => XS.iload X0.here hx rfl (hb hby d23_14) rfl) ?_
  show Go p e below s _ _ _ s₁ (mkF m 16 #[.val (.ref d), .val (.int (46 : Int32)), .val (.int (0 : Int32)), .val (.int (8 : Int32)), .val (.int (46 : Int32)), .val (.int (1 : Int32))] [(.int (1 : Int32)), (.ref d)])
  obtain ⟨cl_2, Ar_2, q_2, S_2, M_2, H_2, G_2⟩ := id V_d
  have hin_2 : ¬ ((1 : Int32) < 0 ∨ cl_2.slots.size ≤ ((1 : Int32)).toNatClampNeg) := inb_of S_2 ⟨by decide, by decide⟩
  have hat_2 : cl_2.slots[((1 : Int32)).toNatClampNeg]? = some (.int (47 : Int32)) := H_2.at hin_2 rfl
  refine Go.st (fun tG => X0.baloadBytes hx (j := (1 : Int32)) (v := (.int (47 : Int32))) (by rw [e0]; exact Ar_2.1) (State.isArrayOf_alike hZ.alike Ar_2.2.1) Ar_2.2.2 hin_2 hat_2 (g := (mkF m 16 #[.val (.ref d), .val (.int (46 : Int32)), .val (.int (0 : Int32)), .val (.int (8 : Int32)), .val (.int (46 : Int32)), .val (.int (1 : Int32))] [(.int (1 : Int32)), (.ref d)])) rfl rfl (hb hby d23_16) tG) ?_
  show Go p e below s _ _ _ s₁ (mkF m 17 #[.val (.ref d), .val (.int (46 : Int32)), .val (.int (0 : Int32)), .val (.int (8 : Int32)), .val (.int (46 : Int32)), .val (.int (1 : Int32))] [(.int (47 : Int32))])
  refine Go.st (fun _ => XS.iload X0.here hx rfl (hb hby d23_17) rfl) ?_
  show Go p e below s _ _ _ s₁ (mkF m 19 #[.val (.ref d), .val (.int (46 : Int32)), .val (.int (0 : Int32)), .val (.int (8 : Int32)), .val (.int (46 : Int32)), .val (.int (1 : Int32))] [(.int (46 : Int32)), (.int (47 : Int32))])
  refine Go.st (fun _ => XS.icmpYes X0.here hx rfl (pc0 := 19) (pc' := 25) rfl (hb hby d23_19) rfl (feq (by decide : ¬ ((47 : Int32) = (46 : Int32)))).2 (by decide) (by decide)) ?_
  show Go p e below s _ _ _ s₁ (mkF m 25 #[.val (.ref d), .val (.int (46 : Int32)), .val (.int (0 : Int32)), .val (.int (8 : Int32)), .val (.int (46 : Int32)), .val (.int (1 : Int32))] [])
  refine Go.st (fun _ => XS.iinc X0.here hx rfl (hb hby d23_25) rfl (l' := #[.val (.ref d), .val (.int (46 : Int32)), .val (.int (0 : Int32)), .val (.int (8 : Int32)), .val (.int (46 : Int32)), .val (.int ((1 : Int32) + (1 : Int32)))]) rfl) ?_
  show Go p e below s _ _ _ s₁ (mkF m 28 #[.val (.ref d), .val (.int (46 : Int32)), .val (.int (0 : Int32)), .val (.int (8 : Int32)), .val (.int (46 : Int32)), .val (.int ((1 : Int32) + (1 : Int32)))] [])
  rw [show ((1 : Int32) + (1 : Int32)) = (2 : Int32) from by decide]
  show Go p e below s _ _ _ s₁ (mkF m 28 #[.val (.ref d), .val (.int (46 : Int32)), .val (.int (0 : Int32)), .val (.int (8 : Int32)), .val (.int (46 : Int32)), .val (.int (2 : Int32))] [])
  refine Go.st (fun _ => XS.goto X0.here hx rfl (pc0 := 28) (pc' := 7) rfl (hb hby d23_28) (by decide) (by decide)) ?_
  show Go p e below s _ _ _ s₁ (mkF m 7 #[.val (.ref d), .val (.int (46 : Int32)), .val (.int (0 : Int32)), .val (.int (8 : Int32)), .val (.int (46 : Int32)), .val (.int (2 : Int32))] [])
  refine Go.st (fun _ => XS.iload X0.here hx rfl (hb hby d23_7) rfl) ?_
  show Go p e below s _ _ _ s₁ (mkF m 9 #[.val (.ref d), .val (.int (46 : Int32)), .val (.int (0 : Int32)), .val (.int (8 : Int32)), .val (.int (46 : Int32)), .val (.int (2 : Int32))] [(.int (2 : Int32))])
  refine Go.st (fun _ => XS.iloadN X0.here hx rfl (hb hby d23_9) rfl) ?_
  show Go p e below s _ _ _ s₁ (mkF m 10 #[.val (.ref d), .val (.int (46 : Int32)), .val (.int (0 : Int32)), .val (.int (8 : Int32)), .val (.int (46 : Int32)), .val (.int (2 : Int32))] [(.int (8 : Int32)), (.int (2 : Int32))])
  refine Go.st (fun _ => XS.icmpNo X0.here hx rfl (hb hby d23_10) rfl (tlt (by decide : (2 : Int32) < (8 : Int32))).2.1) ?_
  show Go p e below s _ _ _ s₁ (mkF m 13 #[.val (.ref d), .val (.int (46 : Int32)), .val (.int (0 : Int32)), .val (.int (8 : Int32)), .val (.int (46 : Int32)), .val (.int (2 : Int32))] [])
  refine Go.st (fun _ => XS.aloadN X0.here hx rfl (hb hby d23_13) rfl rfl) ?_
  show Go p e below s _ _ _ s₁ (mkF m 14 #[.val (.ref d), .val (.int (46 : Int32)), .val (.int (0 : Int32)), .val (.int (8 : Int32)), .val (.int (46 : Int32)), .val (.int (2 : Int32))] [(.ref d)])
  refine Go.st (fun _ => XS.iload X0.here hx rfl (hb hby d23_14) rfl) ?_
  show Go p e below s _ _ _ s₁ (mkF m 16 #[.val (.ref d), .val (.int (46 : Int32)), .val (.int (0 : Int32)), .val (.int (8 : Int32)), .val (.int (46 : Int32)), .val (.int (2 : Int32))] [(.int (2 : Int32)), (.ref d)])
  obtain ⟨cl_3, Ar_3, q_3, S_3, M_3, H_3, G_3⟩ := id V_d
  have hin_3 : ¬ ((2 : Int32) < 0 ∨ cl_3.slots.size ≤ ((2 : Int32)).toNatClampNeg) := inb_of S_3 ⟨by decide, by decide⟩
  have hat_3 : cl_3.slots[((2 : Int32)).toNatClampNeg]? = some (.int (61 : Int32)) := H_3.at hin_3 rfl
  refine Go.st (fun tG => X0.baloadBytes hx (j := (2 : Int32)) (v := (.int (61 : Int32))) (by rw [e0]; exact Ar_3.1) (State.isArrayOf_alike hZ.alike Ar_3.2.1) Ar_3.2.2 hin_3 hat_3 (g := (mkF m 16 #[.val (.ref d), .val (.int (46 : Int32)), .val (.int (0 : Int32)), .val (.int (8 : Int32)), .val (.int (46 : Int32)), .val (.int (2 : Int32))] [(.int (2 : Int32)), (.ref d)])) rfl rfl (hb hby d23_16) tG) ?_
  show Go p e below s _ _ _ s₁ (mkF m 17 #[.val (.ref d), .val (.int (46 : Int32)), .val (.int (0 : Int32)), .val (.int (8 : Int32)), .val (.int (46 : Int32)), .val (.int (2 : Int32))] [(.int (61 : Int32))])
  refine Go.st (fun _ => XS.iload X0.here hx rfl (hb hby d23_17) rfl) ?_
  show Go p e below s _ _ _ s₁ (mkF m 19 #[.val (.ref d), .val (.int (46 : Int32)), .val (.int (0 : Int32)), .val (.int (8 : Int32)), .val (.int (46 : Int32)), .val (.int (2 : Int32))] [(.int (46 : Int32)), (.int (61 : Int32))])
  refine Go.st (fun _ => XS.icmpYes X0.here hx rfl (pc0 := 19) (pc' := 25) rfl (hb hby d23_19) rfl (feq (by decide : ¬ ((61 : Int32) = (46 : Int32)))).2 (by decide) (by decide)) ?_
  show Go p e below s _ _ _ s₁ (mkF m 25 #[.val (.ref d), .val (.int (46 : Int32)), .val (.int (0 : Int32)), .val (.int (8 : Int32)), .val (.int (46 : Int32)), .val (.int (2 : Int32))] [])
  refine Go.st (fun _ => XS.iinc X0.here hx rfl (hb hby d23_25) rfl (l' := #[.val (.ref d), .val (.int (46 : Int32)), .val (.int (0 : Int32)), .val (.int (8 : Int32)), .val (.int (46 : Int32)), .val (.int ((2 : Int32) + (1 : Int32)))]) rfl) ?_
  show Go p e below s _ _ _ s₁ (mkF m 28 #[.val (.ref d), .val (.int (46 : Int32)), .val (.int (0 : Int32)), .val (.int (8 : Int32)), .val (.int (46 : Int32)), .val (.int ((2 : Int32) + (1 : Int32)))] [])
  rw [show ((2 : Int32) + (1 : Int32)) = (3 : Int32) from by decide]
  show Go p e below s _ _ _ s₁ (mkF m 28 #[.val (.ref d), .val (.int (46 : Int32)), .val (.int (0 : Int32)), .val (.int (8 : Int32)), .val (.int (46 : Int32)), .val (.int (3 : Int32))] [])
  refine Go.st (fun _ => XS.goto X0.here hx rfl (pc0 := 28) (pc' := 7) rfl (hb hby d23_28) (by decide) (by decide)) ?_
  show Go p e below s _ _ _ s₁ (mkF m 7 #[.val (.ref d), .val (.int (46 : Int32)), .val (.int (0 : Int32)), .val (.int (8 : Int32)), .val (.int (46 : Int32)), .val (.int (3 : Int32))] [])
  refine Go.st (fun _ => XS.iload X0.here hx rfl (hb hby d23_7) rfl) ?_
  show Go p e below s _ _ _ s₁ (mkF m 9 #[.val (.ref d), .val (.int (46 : Int32)), .val (.int (0 : Int32)), .val (.int (8 : Int32)), .val (.int (46 : Int32)), .val (.int (3 : Int32))] [(.int (3 : Int32))])
  refine Go.st (fun _ => XS.iloadN X0.here hx rfl (hb hby d23_9) rfl) ?_
  show Go p e below s _ _ _ s₁ (mkF m 10 #[.val (.ref d), .val (.int (46 : Int32)), .val (.int (0 : Int32)), .val (.int (8 : Int32)), .val (.int (46 : Int32)), .val (.int (3 : Int32))] [(.int (8 : Int32)), (.int (3 : Int32))])
  refine Go.st (fun _ => XS.icmpNo X0.here hx rfl (hb hby d23_10) rfl (tlt (by decide : (3 : Int32) < (8 : Int32))).2.1) ?_
  show Go p e below s _ _ _ s₁ (mkF m 13 #[.val (.ref d), .val (.int (46 : Int32)), .val (.int (0 : Int32)), .val (.int (8 : Int32)), .val (.int (46 : Int32)), .val (.int (3 : Int32))] [])
  refine Go.st (fun _ => XS.aloadN X0.here hx rfl (hb hby d23_13) rfl rfl) ?_
  show Go p e below s _ _ _ s₁ (mkF m 14 #[.val (.ref d), .val (.int (46 : Int32)), .val (.int (0 : Int32)), .val (.int (8 : Int32)), .val (.int (46 : Int32)), .val (.int (3 : Int32))] [(.ref d)])
  refine Go.st (fun _ => XS.iload X0.here hx rfl (hb hby d23_14) rfl) ?_
  show Go p e below s _ _ _ s₁ (mkF m 16 #[.val (.ref d), .val (.int (46 : Int32)), .val (.int (0 : Int32)), .val (.int (8 : Int32)), .val (.int (46 : Int32)), .val (.int (3 : Int32))] [(.int (3 : Int32)), (.ref d)])
  obtain ⟨cl_4, Ar_4, q_4, S_4, M_4, H_4, G_4⟩ := id V_d
  have hin_4 : ¬ ((3 : Int32) < 0 ∨ cl_4.slots.size ≤ ((3 : Int32)).toNatClampNeg) := inb_of S_4 ⟨by decide, by decide⟩
  have hat_4 : cl_4.slots[((3 : Int32)).toNatClampNeg]? = some (.int (45 : Int32)) := H_4.at hin_4 rfl
  refine Go.st (fun tG => X0.baloadBytes hx (j := (3 : Int32)) (v := (.int (45 : Int32))) (by rw [e0]; exact Ar_4.1) (State.isArrayOf_alike hZ.alike Ar_4.2.1) Ar_4.2.2 hin_4 hat_4 (g := (mkF m 16 #[.val (.ref d), .val (.int (46 : Int32)), .val (.int (0 : Int32)), .val (.int (8 : Int32)), .val (.int (46 : Int32)), .val (.int (3 : Int32))] [(.int (3 : Int32)), (.ref d)])) rfl rfl (hb hby d23_16) tG) ?_
  show Go p e below s _ _ _ s₁ (mkF m 17 #[.val (.ref d), .val (.int (46 : Int32)), .val (.int (0 : Int32)), .val (.int (8 : Int32)), .val (.int (46 : Int32)), .val (.int (3 : Int32))] [(.int (45 : Int32))])
  refine Go.st (fun _ => XS.iload X0.here hx rfl (hb hby d23_17) rfl) ?_
  show Go p e below s _ _ _ s₁ (mkF m 19 #[.val (.ref d), .val (.int (46 : Int32)), .val (.int (0 : Int32)), .val (.int (8 : Int32)), .val (.int (46 : Int32)), .val (.int (3 : Int32))] [(.int (46 : Int32)), (.int (45 : Int32))])
  refine Go.st (fun _ => XS.icmpYes X0.here hx rfl (pc0 := 19) (pc' := 25) rfl (hb hby d23_19) rfl (feq (by decide : ¬ ((45 : Int32) = (46 : Int32)))).2 (by decide) (by decide)) ?_
  show Go p e below s _ _ _ s₁ (mkF m 25 #[.val (.ref d), .val (.int (46 : Int32)), .val (.int (0 : Int32)), .val (.int (8 : Int32)), .val (.int (46 : Int32)), .val (.int (3 : Int32))] [])
  refine Go.st (fun _ => XS.iinc X0.here hx rfl (hb hby d23_25) rfl (l' := #[.val (.ref d), .val (.int (46 : Int32)), .val (.int (0 : Int32)), .val (.int (8 : Int32)), .val (.int (46 : Int32)), .val (.int ((3 : Int32) + (1 : Int32)))]) rfl) ?_
  show Go p e below s _ _ _ s₁ (mkF m 28 #[.val (.ref d), .val (.int (46 : Int32)), .val (.int (0 : Int32)), .val (.int (8 : Int32)), .val (.int (46 : Int32)), .val (.int ((3 : Int32) + (1 : Int32)))] [])
  rw [show ((3 : Int32) + (1 : Int32)) = (4 : Int32) from by decide]
  show Go p e below s _ _ _ s₁ (mkF m 28 #[.val (.ref d), .val (.int (46 : Int32)), .val (.int (0 : Int32)), .val (.int (8 : Int32)), .val (.int (46 : Int32)), .val (.int (4 : Int32))] [])
  refine Go.st (fun _ => XS.goto X0.here hx rfl (pc0 := 28) (pc' := 7) rfl (hb hby d23_28) (by decide) (by decide)) ?_
  show Go p e below s _ _ _ s₁ (mkF m 7 #[.val (.ref d), .val (.int (46 : Int32)), .val (.int (0 : Int32)), .val (.int (8 : Int32)), .val (.int (46 : Int32)), .val (.int (4 : Int32))] [])
  refine Go.st (fun _ => XS.iload X0.here hx rfl (hb hby d23_7) rfl) ?_
  show Go p e below s _ _ _ s₁ (mkF m 9 #[.val (.ref d), .val (.int (46 : Int32)), .val (.int (0 : Int32)), .val (.int (8 : Int32)), .val (.int (46 : Int32)), .val (.int (4 : Int32))] [(.int (4 : Int32))])
  refine Go.st (fun _ => XS.iloadN X0.here hx rfl (hb hby d23_9) rfl) ?_
  show Go p e below s _ _ _ s₁ (mkF m 10 #[.val (.ref d), .val (.int (46 : Int32)), .val (.int (0 : Int32)), .val (.int (8 : Int32)), .val (.int (46 : Int32)), .val (.int (4 : Int32))] [(.int (8 : Int32)), (.int (4 : Int32))])
  refine Go.st (fun _ => XS.icmpNo X0.here hx rfl (hb hby d23_10) rfl (tlt (by decide : (4 : Int32) < (8 : Int32))).2.1) ?_
  show Go p e below s _ _ _ s₁ (mkF m 13 #[.val (.ref d), .val (.int (46 : Int32)), .val (.int (0 : Int32)), .val (.int (8 : Int32)), .val (.int (46 : Int32)), .val (.int (4 : Int32))] [])
  refine Go.st (fun _ => XS.aloadN X0.here hx rfl (hb hby d23_13) rfl rfl) ?_
  show Go p e below s _ _ _ s₁ (mkF m 14 #[.val (.ref d), .val (.int (46 : Int32)), .val (.int (0 : Int32)), .val (.int (8 : Int32)), .val (.int (46 : Int32)), .val (.int (4 : Int32))] [(.ref d)])
  refine Go.st (fun _ => XS.iload X0.here hx rfl (hb hby d23_14) rfl) ?_
  show Go p e below s _ _ _ s₁ (mkF m 16 #[.val (.ref d), .val (.int (46 : Int32)), .val (.int (0 : Int32)), .val (.int (8 : Int32)), .val (.int (46 : Int32)), .val (.int (4 : Int32))] [(.int (4 : Int32)), (.ref d)])
  obtain ⟨cl_5, Ar_5, q_5, S_5, M_5, H_5, G_5⟩ := id V_d
  have hin_5 : ¬ ((4 : Int32) < 0 ∨ cl_5.slots.size ≤ ((4 : Int32)).toNatClampNeg) := inb_of S_5 ⟨by decide, by decide⟩
  have hat_5 : cl_5.slots[((4 : Int32)).toNatClampNeg]? = some (.int (124 : Int32)) := H_5.at hin_5 rfl
  refine Go.st (fun tG => X0.baloadBytes hx (j := (4 : Int32)) (v := (.int (124 : Int32))) (by rw [e0]; exact Ar_5.1) (State.isArrayOf_alike hZ.alike Ar_5.2.1) Ar_5.2.2 hin_5 hat_5 (g := (mkF m 16 #[.val (.ref d), .val (.int (46 : Int32)), .val (.int (0 : Int32)), .val (.int (8 : Int32)), .val (.int (46 : Int32)), .val (.int (4 : Int32))] [(.int (4 : Int32)), (.ref d)])) rfl rfl (hb hby d23_16) tG) ?_
  show Go p e below s _ _ _ s₁ (mkF m 17 #[.val (.ref d), .val (.int (46 : Int32)), .val (.int (0 : Int32)), .val (.int (8 : Int32)), .val (.int (46 : Int32)), .val (.int (4 : Int32))] [(.int (124 : Int32))])
  refine Go.st (fun _ => XS.iload X0.here hx rfl (hb hby d23_17) rfl) ?_
  show Go p e below s _ _ _ s₁ (mkF m 19 #[.val (.ref d), .val (.int (46 : Int32)), .val (.int (0 : Int32)), .val (.int (8 : Int32)), .val (.int (46 : Int32)), .val (.int (4 : Int32))] [(.int (46 : Int32)), (.int (124 : Int32))])
  refine Go.st (fun _ => XS.icmpYes X0.here hx rfl (pc0 := 19) (pc' := 25) rfl (hb hby d23_19) rfl (feq (by decide : ¬ ((124 : Int32) = (46 : Int32)))).2 (by decide) (by decide)) ?_
  show Go p e below s _ _ _ s₁ (mkF m 25 #[.val (.ref d), .val (.int (46 : Int32)), .val (.int (0 : Int32)), .val (.int (8 : Int32)), .val (.int (46 : Int32)), .val (.int (4 : Int32))] [])
  refine Go.st (fun _ => XS.iinc X0.here hx rfl (hb hby d23_25) rfl (l' := #[.val (.ref d), .val (.int (46 : Int32)), .val (.int (0 : Int32)), .val (.int (8 : Int32)), .val (.int (46 : Int32)), .val (.int ((4 : Int32) + (1 : Int32)))]) rfl) ?_
  show Go p e below s _ _ _ s₁ (mkF m 28 #[.val (.ref d), .val (.int (46 : Int32)), .val (.int (0 : Int32)), .val (.int (8 : Int32)), .val (.int (46 : Int32)), .val (.int ((4 : Int32) + (1 : Int32)))] [])
  rw [show ((4 : Int32) + (1 : Int32)) = (5 : Int32) from by decide]
  show Go p e below s _ _ _ s₁ (mkF m 28 #[.val (.ref d), .val (.int (46 : Int32)), .val (.int (0 : Int32)), .val (.int (8 : Int32)), .val (.int (46 : Int32)), .val (.int (5 : Int32))] [])
  refine Go.st (fun _ => XS.goto X0.here hx rfl (pc0 := 28) (pc' := 7) rfl (hb hby d23_28) (by decide) (by decide)) ?_
  show Go p e below s _ _ _ s₁ (mkF m 7 #[.val (.ref d), .val (.int (46 : Int32)), .val (.int (0 : Int32)), .val (.int (8 : Int32)), .val (.int (46 : Int32)), .val (.int (5 : Int32))] [])
  refine Go.st (fun _ => XS.iload X0.here hx rfl (hb hby d23_7) rfl) ?_
  show Go p e below s _ _ _ s₁ (mkF m 9 #[.val (.ref d), .val (.int (46 : Int32)), .val (.int (0 : Int32)), .val (.int (8 : Int32)), .val (.int (46 : Int32)), .val (.int (5 : Int32))] [(.int (5 : Int32))])
  refine Go.st (fun _ => XS.iloadN X0.here hx rfl (hb hby d23_9) rfl) ?_
  show Go p e below s _ _ _ s₁ (mkF m 10 #[.val (.ref d), .val (.int (46 : Int32)), .val (.int (0 : Int32)), .val (.int (8 : Int32)), .val (.int (46 : Int32)), .val (.int (5 : Int32))] [(.int (8 : Int32)), (.int (5 : Int32))])
  refine Go.st (fun _ => XS.icmpNo X0.here hx rfl (hb hby d23_10) rfl (tlt (by decide : (5 : Int32) < (8 : Int32))).2.1) ?_
  show Go p e below s _ _ _ s₁ (mkF m 13 #[.val (.ref d), .val (.int (46 : Int32)), .val (.int (0 : Int32)), .val (.int (8 : Int32)), .val (.int (46 : Int32)), .val (.int (5 : Int32))] [])
  refine Go.st (fun _ => XS.aloadN X0.here hx rfl (hb hby d23_13) rfl rfl) ?_
  show Go p e below s _ _ _ s₁ (mkF m 14 #[.val (.ref d), .val (.int (46 : Int32)), .val (.int (0 : Int32)), .val (.int (8 : Int32)), .val (.int (46 : Int32)), .val (.int (5 : Int32))] [(.ref d)])
  refine Go.st (fun _ => XS.iload X0.here hx rfl (hb hby d23_14) rfl) ?_
  show Go p e below s _ _ _ s₁ (mkF m 16 #[.val (.ref d), .val (.int (46 : Int32)), .val (.int (0 : Int32)), .val (.int (8 : Int32)), .val (.int (46 : Int32)), .val (.int (5 : Int32))] [(.int (5 : Int32)), (.ref d)])
  obtain ⟨cl_6, Ar_6, q_6, S_6, M_6, H_6, G_6⟩ := id V_d
  have hin_6 : ¬ ((5 : Int32) < 0 ∨ cl_6.slots.size ≤ ((5 : Int32)).toNatClampNeg) := inb_of S_6 ⟨by decide, by decide⟩
  have hat_6 : cl_6.slots[((5 : Int32)).toNatClampNeg]? = some (.int (46 : Int32)) := H_6.at hin_6 rfl
  refine Go.st (fun tG => X0.baloadBytes hx (j := (5 : Int32)) (v := (.int (46 : Int32))) (by rw [e0]; exact Ar_6.1) (State.isArrayOf_alike hZ.alike Ar_6.2.1) Ar_6.2.2 hin_6 hat_6 (g := (mkF m 16 #[.val (.ref d), .val (.int (46 : Int32)), .val (.int (0 : Int32)), .val (.int (8 : Int32)), .val (.int (46 : Int32)), .val (.int (5 : Int32))] [(.int (5 : Int32)), (.ref d)])) rfl rfl (hb hby d23_16) tG) ?_
  show Go p e below s _ _ _ s₁ (mkF m 17 #[.val (.ref d), .val (.int (46 : Int32)), .val (.int (0 : Int32)), .val (.int (8 : Int32)), .val (.int (46 : Int32)), .val (.int (5 : Int32))] [(.int (46 : Int32))])
  refine Go.st (fun _ => XS.iload X0.here hx rfl (hb hby d23_17) rfl) ?_
  show Go p e below s _ _ _ s₁ (mkF m 19 #[.val (.ref d), .val (.int (46 : Int32)), .val (.int (0 : Int32)), .val (.int (8 : Int32)), .val (.int (46 : Int32)), .val (.int (5 : Int32))] [(.int (46 : Int32)), (.int (46 : Int32))])
  refine Go.st (fun _ => XS.icmpNo X0.here hx rfl (hb hby d23_19) rfl (teq (by decide : (46 : Int32) = (46 : Int32))).2) ?_
  show Go p e below s _ _ _ s₁ (mkF m 22 #[.val (.ref d), .val (.int (46 : Int32)), .val (.int (0 : Int32)), .val (.int (8 : Int32)), .val (.int (46 : Int32)), .val (.int (5 : Int32))] [])
  refine Go.st (fun _ => XS.iload X0.here hx rfl (hb hby d23_22) rfl) ?_
  show Go p e below s _ _ _ s₁ (mkF m 24 #[.val (.ref d), .val (.int (46 : Int32)), .val (.int (0 : Int32)), .val (.int (8 : Int32)), .val (.int (46 : Int32)), .val (.int (5 : Int32))] [(.int (5 : Int32))])
  exact Go.retI X0 hx hlk Bd.returns (hb hby d23_24) (by rw [e0]; exact ⟨rfl, N0, rfl⟩) (by decide) (by decide)
theorem d19_0 : decode jdk_43_method_22_code 0 = .ok (.iload_n 1, 1) := by decide +kernel
theorem d19_1 : decode jdk_43_method_22_code 1 = .ok (.invokestatic 88, 3) := by decide +kernel
theorem pd_7 : parseMethodDescriptor "(I)Z" = some ⟨[.int], some .boolean⟩ := by decide +kernel
theorem d19_4 : decode jdk_43_method_22_code 4 = .ok (.ifCond .ne 5, 3) := by decide +kernel
theorem d19_9 : decode jdk_43_method_22_code 9 = .ok (.iload_n 2, 1) := by decide +kernel
theorem d19_10 : decode jdk_43_method_22_code 10 = .ok (.iconst 0, 1) := by decide +kernel
theorem d19_11 : decode jdk_43_method_22_code 11 = .ok (.invokestatic 92, 3) := by decide +kernel
theorem pd_8 : parseMethodDescriptor "(II)I" = some ⟨[.int, .int], some .int⟩ := by decide +kernel
theorem d19_14 : decode jdk_43_method_22_code 14 = .ok (.istore_n 2, 1) := by decide +kernel
theorem d19_15 : decode jdk_43_method_22_code 15 = .ok (.iload_n 3, 1) := by decide +kernel
theorem d19_16 : decode jdk_43_method_22_code 16 = .ok (.aload_n 0, 1) := by decide +kernel
theorem d19_17 : decode jdk_43_method_22_code 17 = .ok (.arraylength, 1) := by decide +kernel
theorem d19_18 : decode jdk_43_method_22_code 18 = .ok (.invokestatic 38, 3) := by decide +kernel
theorem d19_21 : decode jdk_43_method_22_code 21 = .ok (.istore_n 3, 1) := by decide +kernel
theorem d19_22 : decode jdk_43_method_22_code 22 = .ok (.iload_n 2, 1) := by decide +kernel
theorem d19_23 : decode jdk_43_method_22_code 23 = .ok (.iload_n 3, 1) := by decide +kernel
theorem d19_24 : decode jdk_43_method_22_code 24 = .ok (.if_icmp .lt 5, 3) := by decide +kernel
theorem d19_29 : decode jdk_43_method_22_code 29 = .ok (.aload_n 0, 1) := by decide +kernel
theorem d19_30 : decode jdk_43_method_22_code 30 = .ok (.iload_n 1, 1) := by decide +kernel
theorem d19_31 : decode jdk_43_method_22_code 31 = .ok (.iload_n 2, 1) := by decide +kernel
theorem d19_32 : decode jdk_43_method_22_code 32 = .ok (.iload_n 3, 1) := by decide +kernel
theorem d19_33 : decode jdk_43_method_22_code 33 = .ok (.invokestatic 95, 3) := by decide +kernel
theorem pd_9 : parseMethodDescriptor "([BIII)I" = some ⟨[(.array .byte), .int, .int, .int], some .int⟩ := by decide +kernel
theorem d19_36 : decode jdk_43_method_22_code 36 = .ok (.ireturn, 1) := by decide +kernel
theorem ef_rmIf46 (m : MethodId) (d : Addr) : entryFrame m #[(.ref d), (.int (46 : Int32)), (.int (0 : Int32)), (.int (8 : Int32))] 4 = mkF m 0 #[.val (.ref d), .val (.int (46 : Int32)), .val (.int (0 : Int32)), .val (.int (8 : Int32))] [] := by first | (simp [entryFrame, mkF, argsToLocals, Value.category]; done) | rfl
def QrmIf46 (Z : State) (d : Addr) (kd : ClassId) (h0 : Heap) (n0 : Nat) (rV : Option Value) (hE : Heap) (LE : List Loc) : Prop := rV = some (.int (5 : Int32)) ∧ Fr n0 LE ∧ hE = h0
set_option maxRecDepth 65536 in
set_option maxHeartbeats 40000000 in
theorem rmIf46 (l : Launch) (Z : State) (a0 : Array Value) (hw : ∀ d ∈ tables_1, d.before a0 Z = true) (ws : List Jvm.Cond) (d : Addr) (kd : ClassId) (h0 : Heap) (n0 : Nat) (Z0 : n0 ≤ h0.size) (V_d : Arv Z h0 d kd .byte (8 : Int32) [(.int (43 : Int32)), (.int (47 : Int32)), (.int (61 : Int32)), (.int (45 : Int32)), (.int (124 : Int32)), (.int (46 : Int32)), (.int (95 : Int32)), (.int (35 : Int32))] (.int (0 : Int32))) :
    MetFree l (⟨"java/lang/StringLatin1", "indexOf", "([BIII)I"⟩ : MethodName) (head1 (Jvm.Cond.code (⟨"java/lang/StringLatin1", "indexOf", "([BIII)I"⟩ : MethodName) jdk_43_method_22_code 4 (some .int) :: ws) ({ frames := 1, cells := 0, slots := 0, locals := 17 } : Room)) (fun aA UA => aA = #[(.ref d), (.int (46 : Int32)), (.int (0 : Int32)), (.int (8 : Int32))] ∧ Z.Warmed39 UA.vm ∧ UA.heap = h0) (fun _ _ _ _ _ => True) (fun _ UA oA UB => ∃ rV LE, oA = .returned rV ∧ QrmIf46 Z d kd h0 n0 rV UB.heap LE ∧ FrameEnd UA oA UB LE ({ frames := 1, cells := 0, slots := 0, locals := 17 } : Room).cells ({ frames := 1, cells := 0, slots := 0, locals := 17 } : Room).slots) := by
  refine MetFree.of_bodySF (plainFor_of_name pn_0) hisR ?_
  intro p e s m args below meth c s₁ Bd hml0 hP hK
  obtain ⟨rfl, hZ, hh⟩ := hP
  have hx := Bd.exec
  have hby := Bd.bytes
  have hml : c.maxLocals = 4 := hml0
  have hown : s.vm.findClass "java/lang/StringLatin1" = some m.cls := findClass_of_methodNamed Bd.named
  have hnm := (name_of_methodNamed Bd.named Bd.method).1
  have hlk := Bd.notSynchronized
  have X0 : Stand p l e ({ frames := 1, cells := 0, slots := 0, locals := 17 } : Room) s m #[(.ref d), (.int (46 : Int32)), (.int (0 : Int32)), (.int (8 : Int32))] below meth c s₁ [] 0 0 := Stand.of_body Bd
  have e0 : s₁.heap = h0 := by rw [← hh, Bd.state]; rfl
  have N0 := Fr.nil n0
  show Go p e below s (QrmIf46 Z d kd h0 n0) ({ frames := 1, cells := 0, slots := 0, locals := 17 } : Room).cells ({ frames := 1, cells := 0, slots := 0, locals := 17 } : Room).slots s₁ (entryFrame m #[(.ref d), (.int (46 : Int32)), (.int (0 : Int32)), (.int (8 : Int32))] 4)
  refine Go.eq (ef_rmIf46 m d) ?_
  show Go p e below s _ _ _ s₁ (mkF m 0 #[.val (.ref d), .val (.int (46 : Int32)), .val (.int (0 : Int32)), .val (.int (8 : Int32))] [])
  refine Go.st (fun _ => XS.iloadN X0.here hx rfl (hb hby d19_0) rfl) ?_
  show Go p e below s _ _ _ s₁ (mkF m 1 #[.val (.ref d), .val (.int (46 : Int32)), .val (.int (0 : Int32)), .val (.int (8 : Int32))] [(.int (46 : Int32))])
  obtain ⟨_, _, ⟨T_1, L_1, kc_1, nc_1⟩, -, X_1, ⟨Lc_1, hQ_1, l_1, y_1, z_1⟩, st_1⟩ := Jvm.LawKit.callS X0 hx (y := (⟨"java/lang/StringLatin1", "canEncode", "(I)Z"⟩ : MethodName)) hown (mvT hZ (hw _ (List.mem_of_getElem? (i := 91) rfl))) (mvT hZ (hw _ (List.mem_of_getElem? (i := 92) rfl))) (mvT hZ (hw _ (List.mem_of_getElem? (i := 13) rfl))) (mvT hZ (hw _ (List.mem_of_getElem? (i := 93) rfl))) (by decide) (backOf (W := 0) (rmCe46 l Z a0 hw []  h0 n0 Z0 ) hZ (hw _ (List.mem_of_getElem? (i := 93) rfl)) (hw _ (List.mem_of_getElem? (i := 13) rfl)) (by decide) (by decide)) (g := (mkF m 1 #[.val (.ref d), .val (.int (46 : Int32)), .val (.int (0 : Int32)), .val (.int (8 : Int32))] [(.int (46 : Int32))])) rfl (by rw [hml]; rfl) (argsL := [(.int (46 : Int32))]) (rest := []) (lenOf pd_7 rfl) rfl (by show 2 * 0 + _ ≤ _; exact Nat.le_of_eq rfl) (hb hby d19_1) (fun _ _ => ⟨rfl, e0, (by decide : 0 + 0 ≤ _), (by decide : 0 + 0 ≤ _)⟩)
  dsimp only [Pt.U, Pt.locs, Pt.cells, Pt.slots] at X_1 l_1 y_1 z_1 st_1 hQ_1
  obtain rfl : kc_1 = 0 := y_1
  obtain rfl : nc_1 = 0 := z_1
  obtain ⟨h_1, e_1⟩ : ∃ hh, T_1.heap = hh := ⟨_, rfl⟩
  rw [e_1] at hQ_1
  obtain ⟨rfl, N_1q, sm_1⟩ := hQ_1
  have N_1 : Fr n0 L_1 := by rw [l_1]; exact Fr.app N0 N_1q
  refine Go.st st_1 ?_
  rw [sm_1] at e_1
  show Go p e below s _ _ _ T_1 (mkF m 4 #[.val (.ref d), .val (.int (46 : Int32)), .val (.int (0 : Int32)), .val (.int (8 : Int32))] [(.int (1 : Int32))])
  refine Go.st (fun _ => XS.ifYes X_1.here hx rfl (pc0 := 4) (pc' := 9) rfl (hb hby d19_4) rfl ((if0 _ _).trans (feq (by decide : ¬ ((1 : Int32) = (0 : Int32)))).2) (by decide) (by decide)) ?_
  show Go p e below s _ _ _ T_1 (mkF m 9 #[.val (.ref d), .val (.int (46 : Int32)), .val (.int (0 : Int32)), .val (.int (8 : Int32))] [])
  refine Go.st (fun _ => XS.iloadN X_1.here hx rfl (hb hby d19_9) rfl) ?_
  show Go p e below s _ _ _ T_1 (mkF m 10 #[.val (.ref d), .val (.int (46 : Int32)), .val (.int (0 : Int32)), .val (.int (8 : Int32))] [(.int (0 : Int32))])
  refine Go.st (fun _ => XS.iconst X_1.here hx rfl (hb hby d19_10)) ?_
  show Go p e below s _ _ _ T_1 (mkF m 11 #[.val (.ref d), .val (.int (46 : Int32)), .val (.int (0 : Int32)), .val (.int (8 : Int32))] [(.int (0 : Int32)), (.int (0 : Int32))])
  obtain ⟨_, _, ⟨T_2, L_2, kc_2, nc_2⟩, -, X_2, ⟨Lc_2, hQ_2, l_2, y_2, z_2⟩, st_2⟩ := Jvm.LawKit.callS X_1 hx (y := (⟨"java/lang/Math", "max", "(II)I"⟩ : MethodName)) hown (mvT hZ (hw _ (List.mem_of_getElem? (i := 94) rfl))) (mvT hZ (hw _ (List.mem_of_getElem? (i := 95) rfl))) (mvT hZ (hw _ (List.mem_of_getElem? (i := 96) rfl))) (mvT hZ (hw _ (List.mem_of_getElem? (i := 97) rfl))) (by decide) (backOf (W := 0) (rmMax l Z a0 hw []  h0 n0 Z0 ) hZ (hw _ (List.mem_of_getElem? (i := 97) rfl)) (hw _ (List.mem_of_getElem? (i := 96) rfl)) (by decide) (by decide)) (g := (mkF m 11 #[.val (.ref d), .val (.int (46 : Int32)), .val (.int (0 : Int32)), .val (.int (8 : Int32))] [(.int (0 : Int32)), (.int (0 : Int32))])) rfl (by rw [hml]; rfl) (argsL := [(.int (0 : Int32)), (.int (0 : Int32))]) (rest := []) (lenOf pd_8 rfl) rfl (by show 2 * 0 + _ ≤ _; exact Nat.le_of_eq rfl) (hb hby d19_11) (fun _ _ => ⟨rfl, e_1, (by decide : 0 + 0 ≤ _), (by decide : 0 + 0 ≤ _)⟩)
  dsimp only [Pt.U, Pt.locs, Pt.cells, Pt.slots] at X_2 l_2 y_2 z_2 st_2 hQ_2
  obtain rfl : kc_2 = 0 := y_2
  obtain rfl : nc_2 = 0 := z_2
  obtain ⟨h_2, e_2⟩ : ∃ hh, T_2.heap = hh := ⟨_, rfl⟩
  rw [e_2] at hQ_2
  obtain ⟨rfl, N_2q, sm_2⟩ := hQ_2
  have N_2 : Fr n0 L_2 := by rw [l_2]; exact Fr.app N_1 N_2q
  refine Go.st st_2 ?_
  rw [sm_2] at e_2
  show Go p e below s _ _ _ T_2 (mkF m 14 #[.val (.ref d), .val (.int (46 : Int32)), .val (.int (0 : Int32)), .val (.int (8 : Int32))] [(.int (0 : Int32))])
  refine Go.st (fun _ => XS.istoreN X_2.here hx rfl (hb hby d19_14) rfl (l' := #[.val (.ref d), .val (.int (46 : Int32)), .val (.int (0 : Int32)), .val (.int (8 : Int32))]) rfl) ?_
  show Go p e below s _ _ _ T_2 (mkF m 15 #[.val (.ref d), .val (.int (46 : Int32)), .val (.int (0 : Int32)), .val (.int (8 : Int32))] [])
  refine Go.st (fun _ => XS.iloadN X_2.here hx rfl (hb hby d19_15) rfl) ?_
  show Go p e below s _ _ _ T_2 (mkF m 16 #[.val (.ref d), .val (.int (46 : Int32)), .val (.int (0 : Int32)), .val (.int (8 : Int32))] [(.int (8 : Int32))])
  refine Go.st (fun _ => XS.aloadN X_2.here hx rfl (hb hby d19_16) rfl rfl) ?_
  show Go p e below s _ _ _ T_2 (mkF m 17 #[.val (.ref d), .val (.int (46 : Int32)), .val (.int (0 : Int32)), .val (.int (8 : Int32))] [(.ref d), (.int (8 : Int32))])
  obtain ⟨cl_3, Ar_3, q_3, S_3, M_3, H_3, G_3⟩ := id V_d
  refine Go.st (fun tG => X_2.arraylength hx (by rw [e_2]; exact Ar_3.1) (State.isArrayOf_alike hZ.alike Ar_3.2.1) (g := (mkF m 17 #[.val (.ref d), .val (.int (46 : Int32)), .val (.int (0 : Int32)), .val (.int (8 : Int32))] [(.ref d), (.int (8 : Int32))])) rfl rfl (hb hby d19_17) tG) ?_
  rw [len_of S_3 M_3]
  show Go p e below s _ _ _ T_2 (mkF m 18 #[.val (.ref d), .val (.int (46 : Int32)), .val (.int (0 : Int32)), .val (.int (8 : Int32))] [(.int (8 : Int32)), (.int (8 : Int32))])
  obtain ⟨_, _, ⟨T_4, L_4, kc_4, nc_4⟩, -, X_4, ⟨Lc_4, hQ_4, l_4, y_4, z_4⟩, st_4⟩ := Jvm.LawKit.callS X_2 hx (y := (⟨"java/lang/Math", "min", "(II)I"⟩ : MethodName)) hown (mvT hZ (hw _ (List.mem_of_getElem? (i := 98) rfl))) (mvT hZ (hw _ (List.mem_of_getElem? (i := 99) rfl))) (mvT hZ (hw _ (List.mem_of_getElem? (i := 96) rfl))) (mvT hZ (hw _ (List.mem_of_getElem? (i := 100) rfl))) (by decide) (backOf (W := 0) (rmMin l Z a0 hw []  h0 n0 Z0 ) hZ (hw _ (List.mem_of_getElem? (i := 100) rfl)) (hw _ (List.mem_of_getElem? (i := 96) rfl)) (by decide) (by decide)) (g := (mkF m 18 #[.val (.ref d), .val (.int (46 : Int32)), .val (.int (0 : Int32)), .val (.int (8 : Int32))] [(.int (8 : Int32)), (.int (8 : Int32))])) rfl (by rw [hml]; rfl) (argsL := [(.int (8 : Int32)), (.int (8 : Int32))]) (rest := []) (lenOf pd_8 rfl) rfl (by show 2 * 0 + _ ≤ _; exact Nat.le_of_eq rfl) (hb hby d19_18) (fun _ _ => ⟨rfl, e_2, (by decide : 0 + 0 ≤ _), (by decide : 0 + 0 ≤ _)⟩)
  dsimp only [Pt.U, Pt.locs, Pt.cells, Pt.slots] at X_4 l_4 y_4 z_4 st_4 hQ_4
  obtain rfl : kc_4 = 0 := y_4
  obtain rfl : nc_4 = 0 := z_4
  obtain ⟨h_4, e_4⟩ : ∃ hh, T_4.heap = hh := ⟨_, rfl⟩
  rw [e_4] at hQ_4
  obtain ⟨rfl, N_4q, sm_4⟩ := hQ_4
  have N_4 : Fr n0 L_4 := by rw [l_4]; exact Fr.app N_2 N_4q
  refine Go.st st_4 ?_
  rw [sm_4] at e_4
  show Go p e below s _ _ _ T_4 (mkF m 21 #[.val (.ref d), .val (.int (46 : Int32)), .val (.int (0 : Int32)), .val (.int (8 : Int32))] [(.int (8 : Int32))])
  refine Go.st (fun _ => XS.istoreN X_4.here hx rfl (hb hby d19_21) rfl (l' := #[.val (.ref d), .val (.int (46 : Int32)), .val (.int (0 : Int32)), .val (.int (8 : Int32))]) rfl) ?_
  show Go p e below s _ _ _ T_4 (mkF m 22 #[.val (.ref d), .val (.int (46 : Int32)), .val (.int (0 : Int32)), .val (.int (8 : Int32))] [])
  refine Go.st (fun _ => XS.iloadN X_4.here hx rfl (hb hby d19_22) rfl) ?_
  show Go p e below s _ _ _ T_4 (mkF m 23 #[.val (.ref d), .val (.int (46 : Int32)), .val (.int (0 : Int32)), .val (.int (8 : Int32))] [(.int (0 : Int32))])
  refine Go.st (fun _ => XS.iloadN X_4.here hx rfl (hb hby d19_23) rfl) ?_
  show Go p e below s _ _ _ T_4 (mkF m 24 #[.val (.ref d), .val (.int (46 : Int32)), .val (.int (0 : Int32)), .val (.int (8 : Int32))] [(.int (8 : Int32)), (.int (0 : Int32))])
  refine Go.st (fun _ => XS.icmpYes X_4.here hx rfl (pc0 := 24) (pc' := 29) rfl (hb hby d19_24) rfl (tlt (by decide : (0 : Int32) < (8 : Int32))).1 (by decide) (by decide)) ?_
  show Go p e below s _ _ _ T_4 (mkF m 29 #[.val (.ref d), .val (.int (46 : Int32)), .val (.int (0 : Int32)), .val (.int (8 : Int32))] [])
  refine Go.st (fun _ => XS.aloadN X_4.here hx rfl (hb hby d19_29) rfl rfl) ?_
  show Go p e below s _ _ _ T_4 (mkF m 30 #[.val (.ref d), .val (.int (46 : Int32)), .val (.int (0 : Int32)), .val (.int (8 : Int32))] [(.ref d)])
  refine Go.st (fun _ => XS.iloadN X_4.here hx rfl (hb hby d19_30) rfl) ?_
  show Go p e below s _ _ _ T_4 (mkF m 31 #[.val (.ref d), .val (.int (46 : Int32)), .val (.int (0 : Int32)), .val (.int (8 : Int32))] [(.int (46 : Int32)), (.ref d)])
  refine Go.st (fun _ => XS.iloadN X_4.here hx rfl (hb hby d19_31) rfl) ?_
  show Go p e below s _ _ _ T_4 (mkF m 32 #[.val (.ref d), .val (.int (46 : Int32)), .val (.int (0 : Int32)), .val (.int (8 : Int32))] [(.int (0 : Int32)), (.int (46 : Int32)), (.ref d)])
  refine Go.st (fun _ => XS.iloadN X_4.here hx rfl (hb hby d19_32) rfl) ?_
  show Go p e below s _ _ _ T_4 (mkF m 33 #[.val (.ref d), .val (.int (46 : Int32)), .val (.int (0 : Int32)), .val (.int (8 : Int32))] [(.int (8 : Int32)), (.int (0 : Int32)), (.int (46 : Int32)), (.ref d)])
  obtain ⟨_, _, ⟨T_5, L_5, kc_5, nc_5⟩, -, X_5, ⟨Lc_5, hQ_5, l_5, y_5, z_5⟩, st_5⟩ := Jvm.LawKit.callS X_4 hx (y := (⟨"java/lang/StringLatin1", "indexOfChar", "([BIII)I"⟩ : MethodName)) hown (mvT hZ (hw _ (List.mem_of_getElem? (i := 101) rfl))) (mvT hZ (hw _ (List.mem_of_getElem? (i := 102) rfl))) (mvT hZ (hw _ (List.mem_of_getElem? (i := 13) rfl))) (mvT hZ (hw _ (List.mem_of_getElem? (i := 103) rfl))) (by decide) (backOf (W := 0) (rmIc46 l Z a0 hw [] d kd h0 n0 Z0 V_d) hZ (hw _ (List.mem_of_getElem? (i := 103) rfl)) (hw _ (List.mem_of_getElem? (i := 13) rfl)) (by decide) (by decide)) (g := (mkF m 33 #[.val (.ref d), .val (.int (46 : Int32)), .val (.int (0 : Int32)), .val (.int (8 : Int32))] [(.int (8 : Int32)), (.int (0 : Int32)), (.int (46 : Int32)), (.ref d)])) rfl (by rw [hml]; rfl) (argsL := [(.ref d), (.int (46 : Int32)), (.int (0 : Int32)), (.int (8 : Int32))]) (rest := []) (lenOf pd_9 rfl) rfl (by show 2 * 0 + _ ≤ _; exact Nat.le_of_eq rfl) (hb hby d19_33) (fun _ _ => ⟨rfl, e_4, (by decide : 0 + 0 ≤ _), (by decide : 0 + 0 ≤ _)⟩)
  dsimp only [Pt.U, Pt.locs, Pt.cells, Pt.slots] at X_5 l_5 y_5 z_5 st_5 hQ_5
  obtain rfl : kc_5 = 0 := y_5
  obtain rfl : nc_5 = 0 := z_5
  obtain ⟨h_5, e_5⟩ : ∃ hh, T_5.heap = hh := ⟨_, rfl⟩
  rw [e_5] at hQ_5
  obtain ⟨rfl, N_5q, sm_5⟩ := hQ_5
  have N_5 : Fr n0 L_5 := by rw [l_5]; exact Fr.app N_4 N_5q
  refine Go.st st_5 ?_
  rw [sm_5] at e_5
  show Go p e below s _ _ _ T_5 (mkF m 36 #[.val (.ref d), .val (.int (46 : Int32)), .val (.int (0 : Int32)), .val (.int (8 : Int32))] [(.int (5 : Int32))])
  exact Go.retI X_5 hx hlk Bd.returns (hb hby d19_36) (by rw [e_5]; exact ⟨rfl, N_5, rfl⟩) (by decide) (by decide)
theorem d9_0 : decode jdk_42_method_54_code 0 = .ok (.aload_n 0, 1) := by decide +kernel
theorem d9_1 : decode jdk_42_method_54_code 1 = .ok (.getfield 9, 3) := by decide +kernel
theorem d9_4 : decode jdk_42_method_54_code 4 = .ok (.arraylength, 1) := by decide +kernel
theorem d9_5 : decode jdk_42_method_54_code 5 = .ok (.aload_n 0, 1) := by decide +kernel
theorem d9_6 : decode jdk_42_method_54_code 6 = .ok (.invokevirtual 335, 3) := by decide +kernel
theorem pd_10 : parseMethodDescriptor "()B" = some ⟨[], some .byte⟩ := by decide +kernel
theorem d9_9 : decode jdk_42_method_54_code 9 = .ok (.ishr, 1) := by decide +kernel
theorem d9_10 : decode jdk_42_method_54_code 10 = .ok (.ireturn, 1) := by decide +kernel
theorem ef_rmLen8 (m : MethodId) (a : Addr) : entryFrame m #[(.ref a)] 1 = mkF m 0 #[.val (.ref a)] [] := by first | (simp [entryFrame, mkF, argsToLocals, Value.category]; done) | rfl
def QrmLen8 (Z : State) (a : Addr) (cs : Int32) (d : Addr) (kd : ClassId) (vs : List Value) (h0 : Heap) (n0 : Nat) (rV : Option Value) (hE : Heap) (LE : List Loc) : Prop := rV = some (.int (8 : Int32)) ∧ Fr n0 LE ∧ hE = h0
set_option maxRecDepth 65536 in
set_option maxHeartbeats 40000000 in
theorem rmLen8 (l : Launch) (Z : State) (a0 : Array Value) (hw : ∀ d ∈ tables_1, d.before a0 Z = true) (ws : List Jvm.Cond) (a : Addr) (cs : Int32) (d : Addr) (kd : ClassId) (vs : List Value) (h0 : Heap) (n0 : Nat) (Z0 : n0 ≤ h0.size) (S_COMPACT_STRINGS : Sta Z h0 "java/lang/String" "COMPACT_STRINGS" "Z" (.int cs)) (hcs : ¬ (cs = (0 : Int32))) (E_a : Exa Z h0 a "java/lang/String") (F_coder_a : Fld Z h0 a "java/lang/String" "coder" "B" (.int (0 : Int32))) (F_value_a : Fld Z h0 a "java/lang/String" "value" "[B" (.ref d)) (V_d : Arv Z h0 d kd .byte (8 : Int32) vs (.int (0 : Int32))) :
    MetFree l (⟨"java/lang/String", "length", "()I"⟩ : MethodName) (head1 (Jvm.Cond.code (⟨"java/lang/String", "length", "()I"⟩ : MethodName) jdk_42_method_54_code 1 (some .int) :: ws) ({ frames := 1, cells := 0, slots := 0, locals := 13 } : Room)) (fun aA UA => aA = #[(.ref a)] ∧ Z.Warmed39 UA.vm ∧ UA.heap = h0) (fun _ _ _ _ _ => True) (fun _ UA oA UB => ∃ rV LE, oA = .returned rV ∧ QrmLen8 Z a cs d kd vs h0 n0 rV UB.heap LE ∧ FrameEnd UA oA UB LE ({ frames := 1, cells := 0, slots := 0, locals := 13 } : Room).cells ({ frames := 1, cells := 0, slots := 0, locals := 13 } : Room).slots) := by
  refine MetFree.of_bodySF (plainFor_of_name pn_1) hisR ?_
  intro p e s m args below meth c s₁ Bd hml0 hP hK
  obtain ⟨rfl, hZ, hh⟩ := hP
  have hx := Bd.exec
  have hby := Bd.bytes
  have hml : c.maxLocals = 1 := hml0
  have hown : s.vm.findClass "java/lang/String" = some m.cls := findClass_of_methodNamed Bd.named
  have hnm := (name_of_methodNamed Bd.named Bd.method).1
  have hlk := Bd.notSynchronized
  have X0 : Stand p l e ({ frames := 1, cells := 0, slots := 0, locals := 13 } : Room) s m #[(.ref a)] below meth c s₁ [] 0 0 := Stand.of_body Bd
  have e0 : s₁.heap = h0 := by rw [← hh, Bd.state]; rfl
  have N0 := Fr.nil n0
  show Go p e below s (QrmLen8 Z a cs d kd vs h0 n0) ({ frames := 1, cells := 0, slots := 0, locals := 13 } : Room).cells ({ frames := 1, cells := 0, slots := 0, locals := 13 } : Room).slots s₁ (entryFrame m #[(.ref a)] 1)
  refine Go.eq (ef_rmLen8 m a) ?_
  show Go p e below s _ _ _ s₁ (mkF m 0 #[.val (.ref a)] [])
  refine Go.st (fun _ => XS.aloadN X0.here hx rfl (hb hby d9_0) rfl rfl) ?_
  show Go p e below s _ _ _ s₁ (mkF m 1 #[.val (.ref a)] [(.ref a)])
  obtain ⟨T_1, X_1, e_1, st_1⟩ := getF X0 hx hZ hown (host := "") (Or.inl (hw _ (List.mem_of_getElem? (i := 28) rfl))) Via.refl e0 F_value_a (g := (mkF m 1 #[.val (.ref a)] [(.ref a)])) rfl rfl (hb hby d9_1)
  refine Go.st st_1 ?_
  show Go p e below s _ _ _ T_1 (mkF m 4 #[.val (.ref a)] [(.ref d)])
  obtain ⟨cl_2, Ar_2, q_2, S_2, M_2, H_2, G_2⟩ := id V_d
  refine Go.st (fun tG => X_1.arraylength hx (by rw [e_1]; exact Ar_2.1) (State.isArrayOf_alike hZ.alike Ar_2.2.1) (g := (mkF m 4 #[.val (.ref a)] [(.ref d)])) rfl rfl (hb hby d9_4) tG) ?_
  rw [len_of S_2 M_2]
  show Go p e below s _ _ _ T_1 (mkF m 5 #[.val (.ref a)] [(.int (8 : Int32))])
  refine Go.st (fun _ => XS.aloadN X_1.here hx rfl (hb hby d9_5) rfl rfl) ?_
  show Go p e below s _ _ _ T_1 (mkF m 6 #[.val (.ref a)] [(.ref a), (.int (8 : Int32))])
  obtain ⟨cq_3, kq_3, q_3a, q_3b, q_3c⟩ := isOf hZ e_1 E_a
  obtain ⟨_, _, ⟨T_3, L_3, kc_3, nc_3⟩, -, X_3, ⟨Lc_3, hQ_3, l_3, y_3, z_3⟩, st_3⟩ := X_1.virtualBack hx (y := (⟨"java/lang/String", "coder", "()B"⟩ : MethodName)) (z := (⟨"java/lang/String", "coder", "()B"⟩ : MethodName)) hown (mvT hZ (hw _ (List.mem_of_getElem? (i := 45) rfl))) (mvT hZ (hw _ (List.mem_of_getElem? (i := 46) rfl))) (notFace_of_selects (args := #[]) (mvT hZ (hw _ (List.mem_of_getElem? (i := 48) rfl)))) (mvT hZ (hw _ (List.mem_of_getElem? (i := 48) rfl))) (mvT hZ (hw _ (List.mem_of_getElem? (i := 47) rfl))) (by decide) (backOf (W := 1) (rmCod l Z a0 hw [] a cs h0 n0 Z0 S_COMPACT_STRINGS hcs F_coder_a) hZ (hw _ (List.mem_of_getElem? (i := 49) rfl)) (hw _ (List.mem_of_getElem? (i := 8) rfl)) (by decide) (by decide)) q_3a q_3c (g := (mkF m 6 #[.val (.ref a)] [(.ref a), (.int (8 : Int32))])) rfl (by rw [hml]; rfl) (Steps.refl _) (argsL := []) (rest := [(.int (8 : Int32))]) (lenOf pd_10 rfl) rfl (by show 2 * 0 + _ ≤ _; exact Nat.le_of_eq rfl) (hb hby d9_6) (fun _ _ => ⟨rfl, e_1, (by decide : 0 + 0 ≤ _), (by decide : 0 + 0 ≤ _)⟩)
  dsimp only [Pt.U, Pt.locs, Pt.cells, Pt.slots] at X_3 l_3 y_3 z_3 st_3 hQ_3
  obtain rfl : kc_3 = 0 := y_3
  obtain rfl : nc_3 = 0 := z_3
  obtain ⟨h_3, e_3⟩ : ∃ hh, T_3.heap = hh := ⟨_, rfl⟩
  rw [e_3] at hQ_3
  obtain ⟨rfl, N_3q, sm_3⟩ := hQ_3
  have N_3 : Fr n0 L_3 := by rw [l_3]; exact Fr.app N0 N_3q
  refine Go.st (fun _ kk => st_3.trans kk) ?_
  rw [sm_3] at e_3
  show Go p e below s _ _ _ T_3 (mkF m 9 #[.val (.ref a)] [(.int (0 : Int32)), (.int (8 : Int32))])
  refine Go.st (fun _ => XS.ishr X_3.here hx rfl (hb hby d9_9) rfl) ?_
  show Go p e below s _ _ _ T_3 (mkF m 10 #[.val (.ref a)] [(.int ((8 : Int32) >>> ((0 : Int32) &&& 31)))])
  rw [show ((8 : Int32) >>> ((0 : Int32) &&& 31)) = (8 : Int32) from by decide]
  show Go p e below s _ _ _ T_3 (mkF m 10 #[.val (.ref a)] [(.int (8 : Int32))])
  exact Go.retI X_3 hx hlk Bd.returns (hb hby d9_10) (by rw [e_3]; exact ⟨rfl, N_3, rfl⟩) (by decide) (by decide)
theorem d18_0 : decode jdk_42_method_80_code 0 = .ok (.aload_n 0, 1) := by decide +kernel
theorem d18_1 : decode jdk_42_method_80_code 1 = .ok (.invokevirtual 492, 3) := by decide +kernel
theorem d18_4 : decode jdk_42_method_80_code 4 = .ok (.ifCond .eq 19, 3) := by decide +kernel
theorem d18_7 : decode jdk_42_method_80_code 7 = .ok (.aload_n 0, 1) := by decide +kernel
theorem d18_8 : decode jdk_42_method_80_code 8 = .ok (.getfield 9, 3) := by decide +kernel
theorem d18_11 : decode jdk_42_method_80_code 11 = .ok (.iload_n 1, 1) := by decide +kernel
theorem d18_12 : decode jdk_42_method_80_code 12 = .ok (.iload_n 2, 1) := by decide +kernel
theorem d18_13 : decode jdk_42_method_80_code 13 = .ok (.aload_n 0, 1) := by decide +kernel
theorem d18_14 : decode jdk_42_method_80_code 14 = .ok (.invokevirtual 505, 3) := by decide +kernel
theorem pd_11 : parseMethodDescriptor "()I" = some ⟨[], some .int⟩ := by decide +kernel
theorem d18_17 : decode jdk_42_method_80_code 17 = .ok (.invokestatic 637, 3) := by decide +kernel
theorem d18_20 : decode jdk_42_method_80_code 20 = .ok (.goto 16, 3) := by decide +kernel
theorem d18_36 : decode jdk_42_method_80_code 36 = .ok (.ireturn, 1) := by decide +kernel
theorem ef_rmIi46 (m : MethodId) (a : Addr) : entryFrame m #[(.ref a), (.int (46 : Int32)), (.int (0 : Int32))] 3 = mkF m 0 #[.val (.ref a), .val (.int (46 : Int32)), .val (.int (0 : Int32))] [] := by first | (simp [entryFrame, mkF, argsToLocals, Value.category]; done) | rfl
def QrmIi46 (Z : State) (a : Addr) (cs : Int32) (d : Addr) (kd : ClassId) (h0 : Heap) (n0 : Nat) (rV : Option Value) (hE : Heap) (LE : List Loc) : Prop := rV = some (.int (5 : Int32)) ∧ Fr n0 LE ∧ hE = h0
set_option maxRecDepth 65536 in
set_option maxHeartbeats 40000000 in
theorem rmIi46 (l : Launch) (Z : State) (a0 : Array Value) (hw : ∀ d ∈ tables_1, d.before a0 Z = true) (ws : List Jvm.Cond) (a : Addr) (cs : Int32) (d : Addr) (kd : ClassId) (h0 : Heap) (n0 : Nat) (Z0 : n0 ≤ h0.size) (S_COMPACT_STRINGS : Sta Z h0 "java/lang/String" "COMPACT_STRINGS" "Z" (.int cs)) (hcs : ¬ (cs = (0 : Int32))) (E_a : Exa Z h0 a "java/lang/String") (F_coder_a : Fld Z h0 a "java/lang/String" "coder" "B" (.int (0 : Int32))) (F_value_a : Fld Z h0 a "java/lang/String" "value" "[B" (.ref d)) (V_d : Arv Z h0 d kd .byte (8 : Int32) [(.int (43 : Int32)), (.int (47 : Int32)), (.int (61 : Int32)), (.int (45 : Int32)), (.int (124 : Int32)), (.int (46 : Int32)), (.int (95 : Int32)), (.int (35 : Int32))] (.int (0 : Int32))) :
    MetFree l (⟨"java/lang/String", "indexOf", "(II)I"⟩ : MethodName) (head1 (Jvm.Cond.code (⟨"java/lang/String", "indexOf", "(II)I"⟩ : MethodName) jdk_42_method_80_code 3 (some .int) :: ws) ({ frames := 2, cells := 0, slots := 0, locals := 32 } : Room)) (fun aA UA => aA = #[(.ref a), (.int (46 : Int32)), (.int (0 : Int32))] ∧ Z.Warmed39 UA.vm ∧ UA.heap = h0) (fun _ _ _ _ _ => True) (fun _ UA oA UB => ∃ rV LE, oA = .returned rV ∧ QrmIi46 Z a cs d kd h0 n0 rV UB.heap LE ∧ FrameEnd UA oA UB LE ({ frames := 2, cells := 0, slots := 0, locals := 32 } : Room).cells ({ frames := 2, cells := 0, slots := 0, locals := 32 } : Room).slots) := by
  refine MetFree.of_bodySF (plainFor_of_name pn_1) hisR ?_
  intro p e s m args below meth c s₁ Bd hml0 hP hK
  obtain ⟨rfl, hZ, hh⟩ := hP
  have hx := Bd.exec
  have hby := Bd.bytes
  have hml : c.maxLocals = 3 := hml0
  have hown : s.vm.findClass "java/lang/String" = some m.cls := findClass_of_methodNamed Bd.named
  have hnm := (name_of_methodNamed Bd.named Bd.method).1
  have hlk := Bd.notSynchronized
  have X0 : Stand p l e ({ frames := 2, cells := 0, slots := 0, locals := 32 } : Room) s m #[(.ref a), (.int (46 : Int32)), (.int (0 : Int32))] below meth c s₁ [] 0 0 := Stand.of_body Bd
  have e0 : s₁.heap = h0 := by rw [← hh, Bd.state]; rfl
  have N0 := Fr.nil n0
  show Go p e below s (QrmIi46 Z a cs d kd h0 n0) ({ frames := 2, cells := 0, slots := 0, locals := 32 } : Room).cells ({ frames := 2, cells := 0, slots := 0, locals := 32 } : Room).slots s₁ (entryFrame m #[(.ref a), (.int (46 : Int32)), (.int (0 : Int32))] 3)
  refine Go.eq (ef_rmIi46 m a) ?_
  show Go p e below s _ _ _ s₁ (mkF m 0 #[.val (.ref a), .val (.int (46 : Int32)), .val (.int (0 : Int32))] [])
  refine Go.st (fun _ => XS.aloadN X0.here hx rfl (hb hby d18_0) rfl rfl) ?_
  show Go p e below s _ _ _ s₁ (mkF m 1 #[.val (.ref a), .val (.int (46 : Int32)), .val (.int (0 : Int32))] [(.ref a)])
  obtain ⟨cq_1, kq_1, q_1a, q_1b, q_1c⟩ := isOf hZ e0 E_a
  obtain ⟨_, _, ⟨T_1, L_1, kc_1, nc_1⟩, -, X_1, ⟨Lc_1, hQ_1, l_1, y_1, z_1⟩, st_1⟩ := X0.virtualBack hx (y := (⟨"java/lang/String", "isLatin1", "()Z"⟩ : MethodName)) (z := (⟨"java/lang/String", "isLatin1", "()Z"⟩ : MethodName)) hown (mvT hZ (hw _ (List.mem_of_getElem? (i := 55) rfl))) (mvT hZ (hw _ (List.mem_of_getElem? (i := 56) rfl))) (notFace_of_selects (args := #[]) (mvT hZ (hw _ (List.mem_of_getElem? (i := 58) rfl)))) (mvT hZ (hw _ (List.mem_of_getElem? (i := 58) rfl))) (mvT hZ (hw _ (List.mem_of_getElem? (i := 57) rfl))) (by decide) (backOf (W := 0) (rmLat l Z a0 hw [] a cs h0 n0 Z0 S_COMPACT_STRINGS hcs F_coder_a) hZ (hw _ (List.mem_of_getElem? (i := 59) rfl)) (hw _ (List.mem_of_getElem? (i := 8) rfl)) (by decide) (by decide)) q_1a q_1c (g := (mkF m 1 #[.val (.ref a), .val (.int (46 : Int32)), .val (.int (0 : Int32))] [(.ref a)])) rfl (by rw [hml]; rfl) (Steps.refl _) (argsL := []) (rest := []) (lenOf pd_5 rfl) rfl (by show 2 * 0 + _ ≤ _; exact Nat.le_of_eq rfl) (hb hby d18_1) (fun _ _ => ⟨rfl, e0, (by decide : 0 + 0 ≤ _), (by decide : 0 + 0 ≤ _)⟩)
  dsimp only [Pt.U, Pt.locs, Pt.cells, Pt.slots] at X_1 l_1 y_1 z_1 st_1 hQ_1
  obtain rfl : kc_1 = 0 := y_1
  obtain rfl : nc_1 = 0 := z_1
  obtain ⟨h_1, e_1⟩ : ∃ hh, T_1.heap = hh := ⟨_, rfl⟩
  rw [e_1] at hQ_1
  obtain ⟨rfl, N_1q, sm_1⟩ := hQ_1
  have N_1 : Fr n0 L_1 := by rw [l_1]; exact Fr.app N0 N_1q
  refine Go.st (fun _ kk => st_1.trans kk) ?_
  rw [sm_1] at e_1
  show Go p e below s _ _ _ T_1 (mkF m 4 #[.val (.ref a), .val (.int (46 : Int32)), .val (.int (0 : Int32))] [(.int (1 : Int32))])
  refine Go.st (fun _ => XS.ifNo X_1.here hx rfl (hb hby d18_4) rfl ((if0 _ _).trans (feq (by decide : ¬ ((1 : Int32) = (0 : Int32)))).1)) ?_
  show Go p e below s _ _ _ T_1 (mkF m 7 #[.val (.ref a), .val (.int (46 : Int32)), .val (.int (0 : Int32))] [])
  refine Go.st (fun _ => XS.aloadN X_1.here hx rfl (hb hby d18_7) rfl rfl) ?_
  show Go p e below s _ _ _ T_1 (mkF m 8 #[.val (.ref a), .val (.int (46 : Int32)), .val (.int (0 : Int32))] [(.ref a)])
  obtain ⟨T_2, X_2, e_2, st_2⟩ := getF X_1 hx hZ hown (host := "") (Or.inl (hw _ (List.mem_of_getElem? (i := 28) rfl))) Via.refl e_1 F_value_a (g := (mkF m 8 #[.val (.ref a), .val (.int (46 : Int32)), .val (.int (0 : Int32))] [(.ref a)])) rfl rfl (hb hby d18_8)
  refine Go.st st_2 ?_
  show Go p e below s _ _ _ T_2 (mkF m 11 #[.val (.ref a), .val (.int (46 : Int32)), .val (.int (0 : Int32))] [(.ref d)])
  refine Go.st (fun _ => XS.iloadN X_2.here hx rfl (hb hby d18_11) rfl) ?_
  show Go p e below s _ _ _ T_2 (mkF m 12 #[.val (.ref a), .val (.int (46 : Int32)), .val (.int (0 : Int32))] [(.int (46 : Int32)), (.ref d)])
  refine Go.st (fun _ => XS.iloadN X_2.here hx rfl (hb hby d18_12) rfl) ?_
  show Go p e below s _ _ _ T_2 (mkF m 13 #[.val (.ref a), .val (.int (46 : Int32)), .val (.int (0 : Int32))] [(.int (0 : Int32)), (.int (46 : Int32)), (.ref d)])
  refine Go.st (fun _ => XS.aloadN X_2.here hx rfl (hb hby d18_13) rfl rfl) ?_
  show Go p e below s _ _ _ T_2 (mkF m 14 #[.val (.ref a), .val (.int (46 : Int32)), .val (.int (0 : Int32))] [(.ref a), (.int (0 : Int32)), (.int (46 : Int32)), (.ref d)])
  obtain ⟨cq_3, kq_3, q_3a, q_3b, q_3c⟩ := isOf hZ e_2 E_a
  obtain ⟨_, _, ⟨T_3, L_3, kc_3, nc_3⟩, -, X_3, ⟨Lc_3, hQ_3, l_3, y_3, z_3⟩, st_3⟩ := X_2.virtualBack hx (y := (⟨"java/lang/String", "length", "()I"⟩ : MethodName)) (z := (⟨"java/lang/String", "length", "()I"⟩ : MethodName)) hown (mvT hZ (hw _ (List.mem_of_getElem? (i := 87) rfl))) (mvT hZ (hw _ (List.mem_of_getElem? (i := 41) rfl))) (notFace_of_selects (args := #[]) (mvT hZ (hw _ (List.mem_of_getElem? (i := 43) rfl)))) (mvT hZ (hw _ (List.mem_of_getElem? (i := 43) rfl))) (mvT hZ (hw _ (List.mem_of_getElem? (i := 42) rfl))) (by decide) (backOf (W := 3) (rmLen8 l Z a0 hw [] a cs d kd [(.int (43 : Int32)), (.int (47 : Int32)), (.int (61 : Int32)), (.int (45 : Int32)), (.int (124 : Int32)), (.int (46 : Int32)), (.int (95 : Int32)), (.int (35 : Int32))] h0 n0 Z0 S_COMPACT_STRINGS hcs E_a F_coder_a F_value_a V_d) hZ (hw _ (List.mem_of_getElem? (i := 44) rfl)) (hw _ (List.mem_of_getElem? (i := 8) rfl)) (by decide) (by decide)) q_3a q_3c (g := (mkF m 14 #[.val (.ref a), .val (.int (46 : Int32)), .val (.int (0 : Int32))] [(.ref a), (.int (0 : Int32)), (.int (46 : Int32)), (.ref d)])) rfl (by rw [hml]; rfl) (Steps.refl _) (argsL := []) (rest := [(.int (0 : Int32)), (.int (46 : Int32)), (.ref d)]) (lenOf pd_11 rfl) rfl (by show 2 * 0 + _ ≤ _; exact Nat.le_of_eq rfl) (hb hby d18_14) (fun _ _ => ⟨rfl, e_2, (by decide : 0 + 0 ≤ _), (by decide : 0 + 0 ≤ _)⟩)
  dsimp only [Pt.U, Pt.locs, Pt.cells, Pt.slots] at X_3 l_3 y_3 z_3 st_3 hQ_3
  obtain rfl : kc_3 = 0 := y_3
  obtain rfl : nc_3 = 0 := z_3
  obtain ⟨h_3, e_3⟩ : ∃ hh, T_3.heap = hh := ⟨_, rfl⟩
  rw [e_3] at hQ_3
  obtain ⟨rfl, N_3q, sm_3⟩ := hQ_3
  have N_3 : Fr n0 L_3 := by rw [l_3]; exact Fr.app N_1 N_3q
  refine Go.st (fun _ kk => st_3.trans kk) ?_
  rw [sm_3] at e_3
  show Go p e below s _ _ _ T_3 (mkF m 17 #[.val (.ref a), .val (.int (46 : Int32)), .val (.int (0 : Int32))] [(.int (8 : Int32)), (.int (0 : Int32)), (.int (46 : Int32)), (.ref d)])
  obtain ⟨_, _, ⟨T_4, L_4, kc_4, nc_4⟩, -, X_4, ⟨Lc_4, hQ_4, l_4, y_4, z_4⟩, st_4⟩ := Jvm.LawKit.callS X_3 hx (y := (⟨"java/lang/StringLatin1", "indexOf", "([BIII)I"⟩ : MethodName)) hown (mvT hZ (hw _ (List.mem_of_getElem? (i := 88) rfl))) (mvT hZ (hw _ (List.mem_of_getElem? (i := 89) rfl))) (mvT hZ (hw _ (List.mem_of_getElem? (i := 13) rfl))) (mvT hZ (hw _ (List.mem_of_getElem? (i := 90) rfl))) (by decide) (backOf (W := 0) (rmIf46 l Z a0 hw [] d kd h0 n0 Z0 V_d) hZ (hw _ (List.mem_of_getElem? (i := 90) rfl)) (hw _ (List.mem_of_getElem? (i := 13) rfl)) (by decide) (by decide)) (g := (mkF m 17 #[.val (.ref a), .val (.int (46 : Int32)), .val (.int (0 : Int32))] [(.int (8 : Int32)), (.int (0 : Int32)), (.int (46 : Int32)), (.ref d)])) rfl (by rw [hml]; rfl) (argsL := [(.ref d), (.int (46 : Int32)), (.int (0 : Int32)), (.int (8 : Int32))]) (rest := []) (lenOf pd_9 rfl) rfl (by show 2 * 0 + _ ≤ _; exact Nat.le_of_eq rfl) (hb hby d18_17) (fun _ _ => ⟨rfl, e_3, (by decide : 0 + 0 ≤ _), (by decide : 0 + 0 ≤ _)⟩)
  dsimp only [Pt.U, Pt.locs, Pt.cells, Pt.slots] at X_4 l_4 y_4 z_4 st_4 hQ_4
  obtain rfl : kc_4 = 0 := y_4
  obtain rfl : nc_4 = 0 := z_4
  obtain ⟨h_4, e_4⟩ : ∃ hh, T_4.heap = hh := ⟨_, rfl⟩
  rw [e_4] at hQ_4
  obtain ⟨rfl, N_4q, sm_4⟩ := hQ_4
  have N_4 : Fr n0 L_4 := by rw [l_4]; exact Fr.app N_3 N_4q
  refine Go.st st_4 ?_
  rw [sm_4] at e_4
  show Go p e below s _ _ _ T_4 (mkF m 20 #[.val (.ref a), .val (.int (46 : Int32)), .val (.int (0 : Int32))] [(.int (5 : Int32))])
  refine Go.st (fun _ => XS.goto X_4.here hx rfl (pc0 := 20) (pc' := 36) rfl (hb hby d18_20) (by decide) (by decide)) ?_
  show Go p e below s _ _ _ T_4 (mkF m 36 #[.val (.ref a), .val (.int (46 : Int32)), .val (.int (0 : Int32))] [(.int (5 : Int32))])
  exact Go.retI X_4 hx hlk Bd.returns (hb hby d18_36) (by rw [e_4]; exact ⟨rfl, N_4, rfl⟩) (by decide) (by decide)
theorem d17_0 : decode jdk_42_method_79_code 0 = .ok (.aload_n 0, 1) := by decide +kernel
theorem d17_1 : decode jdk_42_method_79_code 1 = .ok (.iload_n 1, 1) := by decide +kernel
theorem d17_2 : decode jdk_42_method_79_code 2 = .ok (.iconst 0, 1) := by decide +kernel
theorem d17_3 : decode jdk_42_method_79_code 3 = .ok (.invokevirtual 633, 3) := by decide +kernel
theorem d17_6 : decode jdk_42_method_79_code 6 = .ok (.ireturn, 1) := by decide +kernel
theorem ef_rmIo46 (m : MethodId) (a : Addr) : entryFrame m #[(.ref a), (.int (46 : Int32))] 2 = mkF m 0 #[.val (.ref a), .val (.int (46 : Int32))] [] := by first | (simp [entryFrame, mkF, argsToLocals, Value.category]; done) | rfl
def QrmIo46 (Z : State) (a : Addr) (cs : Int32) (d : Addr) (kd : ClassId) (h0 : Heap) (n0 : Nat) (rV : Option Value) (hE : Heap) (LE : List Loc) : Prop := rV = some (.int (5 : Int32)) ∧ Fr n0 LE ∧ hE = h0
set_option maxRecDepth 65536 in
set_option maxHeartbeats 40000000 in
theorem rmIo46 (l : Launch) (Z : State) (a0 : Array Value) (hw : ∀ d ∈ tables_1, d.before a0 Z = true) (ws : List Jvm.Cond) (a : Addr) (cs : Int32) (d : Addr) (kd : ClassId) (h0 : Heap) (n0 : Nat) (Z0 : n0 ≤ h0.size) (S_COMPACT_STRINGS : Sta Z h0 "java/lang/String" "COMPACT_STRINGS" "Z" (.int cs)) (hcs : ¬ (cs = (0 : Int32))) (E_a : Exa Z h0 a "java/lang/String") (F_coder_a : Fld Z h0 a "java/lang/String" "coder" "B" (.int (0 : Int32))) (F_value_a : Fld Z h0 a "java/lang/String" "value" "[B" (.ref d)) (V_d : Arv Z h0 d kd .byte (8 : Int32) [(.int (43 : Int32)), (.int (47 : Int32)), (.int (61 : Int32)), (.int (45 : Int32)), (.int (124 : Int32)), (.int (46 : Int32)), (.int (95 : Int32)), (.int (35 : Int32))] (.int (0 : Int32))) :
    MetFree l (⟨"java/lang/String", "indexOf", "(I)I"⟩ : MethodName) (head1 (Jvm.Cond.code (⟨"java/lang/String", "indexOf", "(I)I"⟩ : MethodName) jdk_42_method_79_code 2 (some .int) :: ws) ({ frames := 3, cells := 0, slots := 0, locals := 46 } : Room)) (fun aA UA => aA = #[(.ref a), (.int (46 : Int32))] ∧ Z.Warmed39 UA.vm ∧ UA.heap = h0) (fun _ _ _ _ _ => True) (fun _ UA oA UB => ∃ rV LE, oA = .returned rV ∧ QrmIo46 Z a cs d kd h0 n0 rV UB.heap LE ∧ FrameEnd UA oA UB LE ({ frames := 3, cells := 0, slots := 0, locals := 46 } : Room).cells ({ frames := 3, cells := 0, slots := 0, locals := 46 } : Room).slots) := by
  refine MetFree.of_bodySF (plainFor_of_name pn_1) hisR ?_
  intro p e s m args below meth c s₁ Bd hml0 hP hK
  obtain ⟨rfl, hZ, hh⟩ := hP
  have hx := Bd.exec
  have hby := Bd.bytes
  have hml : c.maxLocals = 2 := hml0
  have hown : s.vm.findClass "java/lang/String" = some m.cls := findClass_of_methodNamed Bd.named
  have hnm := (name_of_methodNamed Bd.named Bd.method).1
  have hlk := Bd.notSynchronized
  have X0 : Stand p l e ({ frames := 3, cells := 0, slots := 0, locals := 46 } : Room) s m #[(.ref a), (.int (46 : Int32))] below meth c s₁ [] 0 0 := Stand.of_body Bd
  have e0 : s₁.heap = h0 := by rw [← hh, Bd.state]; rfl
  have N0 := Fr.nil n0
  show Go p e below s (QrmIo46 Z a cs d kd h0 n0) ({ frames := 3, cells := 0, slots := 0, locals := 46 } : Room).cells ({ frames := 3, cells := 0, slots := 0, locals := 46 } : Room).slots s₁ (entryFrame m #[(.ref a), (.int (46 : Int32))] 2)
  refine Go.eq (ef_rmIo46 m a) ?_
  show Go p e below s _ _ _ s₁ (mkF m 0 #[.val (.ref a), .val (.int (46 : Int32))] [])
  refine Go.st (fun _ => XS.aloadN X0.here hx rfl (hb hby d17_0) rfl rfl) ?_
  show Go p e below s _ _ _ s₁ (mkF m 1 #[.val (.ref a), .val (.int (46 : Int32))] [(.ref a)])
  refine Go.st (fun _ => XS.iloadN X0.here hx rfl (hb hby d17_1) rfl) ?_
  show Go p e below s _ _ _ s₁ (mkF m 2 #[.val (.ref a), .val (.int (46 : Int32))] [(.int (46 : Int32)), (.ref a)])
  refine Go.st (fun _ => XS.iconst X0.here hx rfl (hb hby d17_2)) ?_
  show Go p e below s _ _ _ s₁ (mkF m 3 #[.val (.ref a), .val (.int (46 : Int32))] [(.int (0 : Int32)), (.int (46 : Int32)), (.ref a)])
  obtain ⟨cq_1, kq_1, q_1a, q_1b, q_1c⟩ := isOf hZ e0 E_a
  obtain ⟨_, _, ⟨T_1, L_1, kc_1, nc_1⟩, -, X_1, ⟨Lc_1, hQ_1, l_1, y_1, z_1⟩, st_1⟩ := X0.virtualBack hx (y := (⟨"java/lang/String", "indexOf", "(II)I"⟩ : MethodName)) (z := (⟨"java/lang/String", "indexOf", "(II)I"⟩ : MethodName)) hown (mvT hZ (hw _ (List.mem_of_getElem? (i := 82) rfl))) (mvT hZ (hw _ (List.mem_of_getElem? (i := 83) rfl))) (notFace_of_selects (args := #[]) (mvT hZ (hw _ (List.mem_of_getElem? (i := 85) rfl)))) (mvT hZ (hw _ (List.mem_of_getElem? (i := 85) rfl))) (mvT hZ (hw _ (List.mem_of_getElem? (i := 84) rfl))) (by decide) (backOf (W := 0) (rmIi46 l Z a0 hw [] a cs d kd h0 n0 Z0 S_COMPACT_STRINGS hcs E_a F_coder_a F_value_a V_d) hZ (hw _ (List.mem_of_getElem? (i := 86) rfl)) (hw _ (List.mem_of_getElem? (i := 8) rfl)) (by decide) (by decide)) q_1a q_1c (g := (mkF m 3 #[.val (.ref a), .val (.int (46 : Int32))] [(.int (0 : Int32)), (.int (46 : Int32)), (.ref a)])) rfl (by rw [hml]; rfl) (Steps.refl _) (argsL := [(.int (46 : Int32)), (.int (0 : Int32))]) (rest := []) (lenOf pd_8 rfl) rfl (by show 2 * 0 + _ ≤ _; exact Nat.le_of_eq rfl) (hb hby d17_3) (fun _ _ => ⟨rfl, e0, (by decide : 0 + 0 ≤ _), (by decide : 0 + 0 ≤ _)⟩)
  dsimp only [Pt.U, Pt.locs, Pt.cells, Pt.slots] at X_1 l_1 y_1 z_1 st_1 hQ_1
  obtain rfl : kc_1 = 0 := y_1
  obtain rfl : nc_1 = 0 := z_1
  obtain ⟨h_1, e_1⟩ : ∃ hh, T_1.heap = hh := ⟨_, rfl⟩
  rw [e_1] at hQ_1
  obtain ⟨rfl, N_1q, sm_1⟩ := hQ_1
  have N_1 : Fr n0 L_1 := by rw [l_1]; exact Fr.app N0 N_1q
  refine Go.st (fun _ kk => st_1.trans kk) ?_
  rw [sm_1] at e_1
  show Go p e below s _ _ _ T_1 (mkF m 6 #[.val (.ref a), .val (.int (46 : Int32))] [(.int (5 : Int32))])
  exact Go.retI X_1 hx hlk Bd.returns (hb hby d17_6) (by rw [e_1]; exact ⟨rfl, N_1, rfl⟩) (by decide) (by decide)
theorem d16_0 : decode prog_20_method_4_code 0 = .ok (.iload_n 0, 1) := by decide +kernel
theorem d16_1 : decode prog_20_method_4_code 1 = .ok (.bipush 97, 2) := by decide +kernel
theorem d16_3 : decode prog_20_method_4_code 3 = .ok (.if_icmp .lt 9, 3) := by decide +kernel
theorem d16_12 : decode prog_20_method_4_code 12 = .ok (.iload_n 0, 1) := by decide +kernel
theorem d16_13 : decode prog_20_method_4_code 13 = .ok (.bipush 65, 2) := by decide +kernel
theorem d16_15 : decode prog_20_method_4_code 15 = .ok (.if_icmp .lt 9, 3) := by decide +kernel
theorem d16_24 : decode prog_20_method_4_code 24 = .ok (.iload_n 0, 1) := by decide +kernel
theorem d16_25 : decode prog_20_method_4_code 25 = .ok (.bipush 48, 2) := by decide +kernel
theorem d16_27 : decode prog_20_method_4_code 27 = .ok (.if_icmp .lt 11, 3) := by decide +kernel
theorem d16_38 : decode prog_20_method_4_code 38 = .ok (.ldc 55, 2) := by decide +kernel
theorem d16_40 : decode prog_20_method_4_code 40 = .ok (.iload_n 0, 1) := by decide +kernel
theorem d16_41 : decode prog_20_method_4_code 41 = .ok (.invokevirtual 57, 3) := by decide +kernel
theorem pd_12 : parseMethodDescriptor "(I)I" = some ⟨[.int], some .int⟩ := by decide +kernel
theorem d16_44 : decode prog_20_method_4_code 44 = .ok (.ifCond .lt 7, 3) := by decide +kernel
theorem d16_47 : decode prog_20_method_4_code 47 = .ok (.iconst 1, 1) := by decide +kernel
theorem d16_48 : decode prog_20_method_4_code 48 = .ok (.goto 4, 3) := by decide +kernel
theorem d16_52 : decode prog_20_method_4_code 52 = .ok (.ireturn, 1) := by decide +kernel
theorem pn_3 : plainName "com/example/contextwire/contextwire/RequestId" = true := by first | (simp [plainName, overriddenIn]; done) | decide +kernel
theorem ef_rmId46 (m : MethodId)  : entryFrame m #[(.int (46 : Int32))] 1 = mkF m 0 #[.val (.int (46 : Int32))] [] := by first | (simp [entryFrame, mkF, argsToLocals, Value.category]; done) | rfl
def QrmId46 (Z : State) (cs : Int32) (h0 : Heap) (n0 : Nat) (rV : Option Value) (hE : Heap) (LE : List Loc) : Prop := rV = some (.int (1 : Int32)) ∧ Fr n0 LE ∧ Keep h0 hE []
set_option maxRecDepth 65536 in
set_option maxHeartbeats 40000000 in
theorem rmId46 (l : Launch) (Z : State) (a0 : Array Value) (hw : ∀ d ∈ tables_1, d.before a0 Z = true) (ws : List Jvm.Cond) (cs : Int32) (h0 : Heap) (n0 : Nat) (Z0 : n0 ≤ h0.size) (S_COMPACT_STRINGS : Sta Z h0 "java/lang/String" "COMPACT_STRINGS" "Z" (.int cs)) (hcs : ¬ (cs = (0 : Int32))) :
    MetFree l (⟨"com/example/contextwire/contextwire/RequestId", "isIdChar", "(C)Z"⟩ : MethodName) (head1 (Jvm.Cond.code (⟨"com/example/contextwire/contextwire/RequestId", "isIdChar", "(C)Z"⟩ : MethodName) prog_20_method_4_code 1 (some .boolean) :: ws) ({ frames := 4, cells := 2, slots := 36, locals := 59 } : Room)) (fun aA UA => aA = #[(.int (46 : Int32))] ∧ Z.Warmed39 UA.vm ∧ UA.heap = h0 ∧ CHv Z consts_1 UA.vm h0) (fun _ _ _ _ _ => True) (fun _ UA oA UB => ∃ rV LE, oA = .returned rV ∧ QrmId46 Z cs h0 n0 rV UB.heap LE ∧ CHr Z consts_1 UA.vm UA.heap UB.vm UB.heap ∧ ReturnedEndW UA oA UB LE ({ frames := 4, cells := 2, slots := 36, locals := 59 } : Room).cells ({ frames := 4, cells := 2, slots := 36, locals := 59 } : Room).slots) := by
  refine MetFree.of_bodySF (plainFor_of_name pn_3) hisR ?_
  intro p e s m args below meth c s₁ Bd hml0 hP hK
  obtain ⟨rfl, hZ, hh, hCH⟩ := hP
  have wS := ws1 hw
  have hEL := ew1 hw
  have HE0 := OwnH.start hh hCH
  have hZ : Z.Warmed39 (s.setVm s.vm).vm := hZ
  have hx := Bd.exec
  have hby := Bd.bytes
  have hml : c.maxLocals = 1 := hml0
  have hown : (s.setVm s.vm).vm.findClass "com/example/contextwire/contextwire/RequestId" = some m.cls := findClass_of_methodNamed Bd.named
  have hnm := (name_of_methodNamed Bd.named Bd.method).1
  have hlk := Bd.notSynchronized
  have X0 : Stand p l e ({ frames := 4, cells := 2, slots := 36, locals := 59 } : Room) (s.setVm s.vm) m #[(.int (46 : Int32))] below meth c s₁ [] 0 0 := Stand.of_body Bd
  have e0 : s₁.heap = h0 := by rw [← hh, Bd.state]; rfl
  have N0 := Fr.nil n0
  show GoS p e below s Z consts_1 (QrmId46 Z cs h0 n0) ({ frames := 4, cells := 2, slots := 36, locals := 59 } : Room).cells ({ frames := 4, cells := 2, slots := 36, locals := 59 } : Room).slots s₁ (entryFrame m #[(.int (46 : Int32))] 1)
  refine GoS.eq (ef_rmId46 m ) ?_
  show GoS p e below s _ _ _ _ _ s₁ (mkF m 0 #[.val (.int (46 : Int32))] [])
  refine GoS.st (fun _ => XS.iloadN X0.here hx rfl (hb hby d16_0) rfl) ?_
  show GoS p e below s _ _ _ _ _ s₁ (mkF m 1 #[.val (.int (46 : Int32))] [(.int (46 : Int32))])
  refine GoS.st (fun _ => XS.bipush X0.here hx rfl (hb hby d16_1)) ?_
  show GoS p e below s _ _ _ _ _ s₁ (mkF m 3 #[.val (.int (46 : Int32))] [(.int (97 : Int32)), (.int (46 : Int32))])
  refine GoS.st (fun _ => XS.icmpYes X0.here hx rfl (pc0 := 3) (pc' := 12) rfl (hb hby d16_3) rfl (tlt (by decide : (46 : Int32) < (97 : Int32))).1 (by decide) (by decide)) ?_
  show GoS p e below s _ _ _ _ _ s₁ (mkF m 12 #[.val (.int (46 : Int32))] [])
  refine GoS.st (fun _ => XS.iloadN X0.here hx rfl (hb hby d16_12) rfl) ?_
  show GoS p e below s _ _ _ _ _ s₁ (mkF m 13 #[.val (.int (46 : Int32))] [(.int (46 : Int32))])
  refine GoS.st (fun _ => XS.bipush X0.here hx rfl (hb hby d16_13)) ?_
  show GoS p e below s _ _ _ _ _ s₁ (mkF m 15 #[.val (.int (46 : Int32))] [(.int (65 : Int32)), (.int (46 : Int32))])
  refine GoS.st (fun _ => XS.icmpYes X0.here hx rfl (pc0 := 15) (pc' := 24) rfl (hb hby d16_15) rfl (tlt (by decide : (46 : Int32) < (65 : Int32))).1 (by decide) (by decide)) ?_
  show GoS p e below s _ _ _ _ _ s₁ (mkF m 24 #[.val (.int (46 : Int32))] [])
  refine GoS.st (fun _ => XS.iloadN X0.here hx rfl (hb hby d16_24) rfl) ?_
  show GoS p e below s _ _ _ _ _ s₁ (mkF m 25 #[.val (.int (46 : Int32))] [(.int (46 : Int32))])
  refine GoS.st (fun _ => XS.bipush X0.here hx rfl (hb hby d16_25)) ?_
  show GoS p e below s _ _ _ _ _ s₁ (mkF m 27 #[.val (.int (46 : Int32))] [(.int (48 : Int32)), (.int (46 : Int32))])
  refine GoS.st (fun _ => XS.icmpYes X0.here hx rfl (pc0 := 27) (pc' := 38) rfl (hb hby d16_27) rfl (tlt (by decide : (46 : Int32) < (48 : Int32))).1 (by decide) (by decide)) ?_
  show GoS p e below s _ _ _ _ _ s₁ (mkF m 38 #[.val (.int (46 : Int32))] [])
  obtain ⟨⟨_, hS_1, hk_1⟩, -⟩ := id HE0
  obtain ⟨a_1, T_1, h_1, k1_1, d_1, kd_1, X_1, e_1, E_1, hS_1', hk_1', hZ, hown, A_1, C_1, F_1, V_1, la_1, lb_1, CH_1, -, sf_1, st_1⟩ := ldcCH X0 hx hZ hown (hw _ (List.mem_of_getElem? (i := 74) rfl)) wS e0 hS_1 hk_1 hEL (List.mem_of_getElem? (i := 0) rfl) HE0.chv (vs := [(.int (43 : Int32)), (.int (47 : Int32)), (.int (61 : Int32)), (.int (45 : Int32)), (.int (124 : Int32)), (.int (46 : Int32)), (.int (95 : Int32)), (.int (35 : Int32))]) (z := (8 : Int32)) ⟨by decide +kernel, by decide +kernel⟩ (by decide) (by decide) (g := (mkF m 38 #[.val (.int (46 : Int32))] [])) rfl (hb hby d16_38) (n := 32) (by decide +kernel) (by decide) (by decide) (by decide)
  have HE_1 := HE0.next hS_1' hk_1' CH_1
  refine GoS.st st_1 ?_
  have z_1 : n0 ≤ h_1.size := Nat.le_trans Z0 E_1.1
  have K_1 : Keep h0 h_1 [] := (Keep.refl h0 []).ext E_1
  show GoS p e below s _ _ _ _ _ T_1 (mkF m 40 #[.val (.int (46 : Int32))] [(.ref a_1)])
  refine GoS.st (fun _ => XS.iloadN X_1.here hx rfl (hb hby d16_40) rfl) ?_
  show GoS p e below s _ _ _ _ _ T_1 (mkF m 41 #[.val (.int (46 : Int32))] [(.int (46 : Int32)), (.ref a_1)])
  have f_3 := (S_COMPACT_STRINGS.ext E_1)
  obtain ⟨cq_2, kq_2, q_2a, q_2b, q_2c⟩ := isOf hZ e_1 A_1
  obtain ⟨_, _, ⟨T_2, L_2, kc_2, nc_2⟩, -, X_2, ⟨Lc_2, hQ_2, l_2, y_2, z_2⟩, st_2⟩ := X_1.virtualBack hx (y := (⟨"java/lang/String", "indexOf", "(I)I"⟩ : MethodName)) (z := (⟨"java/lang/String", "indexOf", "(I)I"⟩ : MethodName)) hown (mvT hZ (hw _ (List.mem_of_getElem? (i := 77) rfl))) (mvT hZ (hw _ (List.mem_of_getElem? (i := 78) rfl))) (notFace_of_selects (args := #[]) (mvT hZ (hw _ (List.mem_of_getElem? (i := 80) rfl)))) (mvT hZ (hw _ (List.mem_of_getElem? (i := 80) rfl))) (mvT hZ (hw _ (List.mem_of_getElem? (i := 79) rfl))) (by decide) (backOf (W := 0) (rmIo46 l Z a0 hw [] a_1 cs d_1 kd_1 h_1 n0 z_1 f_3 hcs A_1 C_1 F_1 V_1) hZ (hw _ (List.mem_of_getElem? (i := 81) rfl)) (hw _ (List.mem_of_getElem? (i := 8) rfl)) (by decide) (by decide)) q_2a q_2c (g := (mkF m 41 #[.val (.int (46 : Int32))] [(.int (46 : Int32)), (.ref a_1)])) rfl (by rw [hml]; rfl) (Steps.refl _) (argsL := [(.int (46 : Int32))]) (rest := []) (lenOf pd_12 rfl) rfl (by show 2 * 0 + _ ≤ _; exact Nat.le_of_eq rfl) (hb hby d16_41) (fun _ _ => ⟨rfl, e_1, (by decide : 2 + 0 ≤ _), (by decide : 36 + 0 ≤ _)⟩)
  dsimp only [Pt.U, Pt.locs, Pt.cells, Pt.slots] at X_2 l_2 y_2 z_2 st_2 hQ_2
  obtain rfl : kc_2 = 2 := y_2
  obtain rfl : nc_2 = 36 := z_2
  obtain ⟨h_2, e_2⟩ : ∃ hh, T_2.heap = hh := ⟨_, rfl⟩
  rw [e_2] at hQ_2
  obtain ⟨rfl, N_2q, sm_2⟩ := hQ_2
  have N_2 : Fr n0 L_2 := by rw [l_2]; exact Fr.app N0 N_2q
  refine GoS.st (fun _ kk => st_2.trans kk) ?_
  rw [sm_2] at e_2
  show GoS p e below s _ _ _ _ _ T_2 (mkF m 44 #[.val (.int (46 : Int32))] [(.int (5 : Int32))])
  refine GoS.st (fun _ => XS.ifNo X_2.here hx rfl (hb hby d16_44) rfl ((if0 _ _).trans (flt (by decide : ¬ ((5 : Int32) < (0 : Int32)))).1)) ?_
  show GoS p e below s _ _ _ _ _ T_2 (mkF m 47 #[.val (.int (46 : Int32))] [])
  refine GoS.st (fun _ => XS.iconst X_2.here hx rfl (hb hby d16_47)) ?_
  show GoS p e below s _ _ _ _ _ T_2 (mkF m 48 #[.val (.int (46 : Int32))] [(.int (1 : Int32))])
  refine GoS.st (fun _ => XS.goto X_2.here hx rfl (pc0 := 48) (pc' := 52) rfl (hb hby d16_48) (by decide) (by decide)) ?_
  show GoS p e below s _ _ _ _ _ T_2 (mkF m 52 #[.val (.int (46 : Int32))] [(.int (1 : Int32))])
  exact GoS.retZ hZ hEL HE_1 e_2 X_2 hx hlk Bd.returns (hb hby d16_52) rfl (by rw [e_2]; exact ⟨rfl, N_2, K_1⟩) (by decide) (by decide)
theorem ef_rmLen1 (m : MethodId) (a : Addr) : entryFrame m #[(.ref a)] 1 = mkF m 0 #[.val (.ref a)] [] := by first | (simp [entryFrame, mkF, argsToLocals, Value.category]; done) | rfl
def QrmLen1 (Z : State) (a : Addr) (cs : Int32) (d : Addr) (kd : ClassId) (vs : List Value) (h0 : Heap) (n0 : Nat) (rV : Option Value) (hE : Heap) (LE : List Loc) : Prop := rV = some (.int (1 : Int32)) ∧ Fr n0 LE ∧ hE = h0
set_option maxRecDepth 65536 in
set_option maxHeartbeats 40000000 in
theorem rmLen1 (l : Launch) (Z : State) (a0 : Array Value) (hw : ∀ d ∈ tables_1, d.before a0 Z = true) (ws : List Jvm.Cond) (a : Addr) (cs : Int32) (d : Addr) (kd : ClassId) (vs : List Value) (h0 : Heap) (n0 : Nat) (Z0 : n0 ≤ h0.size) (S_COMPACT_STRINGS : Sta Z h0 "java/lang/String" "COMPACT_STRINGS" "Z" (.int cs)) (hcs : ¬ (cs = (0 : Int32))) (E_a : Exa Z h0 a "java/lang/String") (F_coder_a : Fld Z h0 a "java/lang/String" "coder" "B" (.int (0 : Int32))) (F_value_a : Fld Z h0 a "java/lang/String" "value" "[B" (.ref d)) (V_d : Arv Z h0 d kd .byte (1 : Int32) vs (.int (0 : Int32))) :
    MetFree l (⟨"java/lang/String", "length", "()I"⟩ : MethodName) (head1 (Jvm.Cond.code (⟨"java/lang/String", "length", "()I"⟩ : MethodName) jdk_42_method_54_code 1 (some .int) :: ws) ({ frames := 1, cells := 0, slots := 0, locals := 13 } : Room)) (fun aA UA => aA = #[(.ref a)] ∧ Z.Warmed39 UA.vm ∧ UA.heap = h0) (fun _ _ _ _ _ => True) (fun _ UA oA UB => ∃ rV LE, oA = .returned rV ∧ QrmLen1 Z a cs d kd vs h0 n0 rV UB.heap LE ∧ FrameEnd UA oA UB LE ({ frames := 1, cells := 0, slots := 0, locals := 13 } : Room).cells ({ frames := 1, cells := 0, slots := 0, locals := 13 } : Room).slots) := by
  refine MetFree.of_bodySF (plainFor_of_name pn_1) hisR ?_
  intro p e s m args below meth c s₁ Bd hml0 hP hK
  obtain ⟨rfl, hZ, hh⟩ := hP
  have hx := Bd.exec
  have hby := Bd.bytes
  have hml : c.maxLocals = 1 := hml0
  have hown : s.vm.findClass "java/lang/String" = some m.cls := findClass_of_methodNamed Bd.named
  have hnm := (name_of_methodNamed Bd.named Bd.method).1
  have hlk := Bd.notSynchronized
  have X0 : Stand p l e ({ frames := 1, cells := 0, slots := 0, locals := 13 } : Room) s m #[(.ref a)] below meth c s₁ [] 0 0 := Stand.of_body Bd
  have e0 : s₁.heap = h0 := by rw [← hh, Bd.state]; rfl
  have N0 := Fr.nil n0
  show Go p e below s (QrmLen1 Z a cs d kd vs h0 n0) ({ frames := 1, cells := 0, slots := 0, locals := 13 } : Room).cells ({ frames := 1, cells := 0, slots := 0, locals := 13 } : Room).slots s₁ (entryFrame m #[(.ref a)] 1)
  refine Go.eq (ef_rmLen1 m a) ?_
  show Go p e below s _ _ _ s₁ (mkF m 0 #[.val (.ref a)] [])
  refine Go.st (fun _ => XS.aloadN X0.here hx rfl (hb hby d9_0) rfl rfl) ?_
  show Go p e below s _ _ _ s₁ (mkF m 1 #[.val (.ref a)] [(.ref a)])
  obtain ⟨T_1, X_1, e_1, st_1⟩ := getF X0 hx hZ hown (host := "") (Or.inl (hw _ (List.mem_of_getElem? (i := 28) rfl))) Via.refl e0 F_value_a (g := (mkF m 1 #[.val (.ref a)] [(.ref a)])) rfl rfl (hb hby d9_1)
  refine Go.st st_1 ?_
  show Go p e below s _ _ _ T_1 (mkF m 4 #[.val (.ref a)] [(.ref d)])
  obtain ⟨cl_2, Ar_2, q_2, S_2, M_2, H_2, G_2⟩ := id V_d
  refine Go.st (fun tG => X_1.arraylength hx (by rw [e_1]; exact Ar_2.1) (State.isArrayOf_alike hZ.alike Ar_2.2.1) (g := (mkF m 4 #[.val (.ref a)] [(.ref d)])) rfl rfl (hb hby d9_4) tG) ?_
  rw [len_of S_2 M_2]
  show Go p e below s _ _ _ T_1 (mkF m 5 #[.val (.ref a)] [(.int (1 : Int32))])
  refine Go.st (fun _ => XS.aloadN X_1.here hx rfl (hb hby d9_5) rfl rfl) ?_
  show Go p e below s _ _ _ T_1 (mkF m 6 #[.val (.ref a)] [(.ref a), (.int (1 : Int32))])
  obtain ⟨cq_3, kq_3, q_3a, q_3b, q_3c⟩ := isOf hZ e_1 E_a
  obtain ⟨_, _, ⟨T_3, L_3, kc_3, nc_3⟩, -, X_3, ⟨Lc_3, hQ_3, l_3, y_3, z_3⟩, st_3⟩ := X_1.virtualBack hx (y := (⟨"java/lang/String", "coder", "()B"⟩ : MethodName)) (z := (⟨"java/lang/String", "coder", "()B"⟩ : MethodName)) hown (mvT hZ (hw _ (List.mem_of_getElem? (i := 45) rfl))) (mvT hZ (hw _ (List.mem_of_getElem? (i := 46) rfl))) (notFace_of_selects (args := #[]) (mvT hZ (hw _ (List.mem_of_getElem? (i := 48) rfl)))) (mvT hZ (hw _ (List.mem_of_getElem? (i := 48) rfl))) (mvT hZ (hw _ (List.mem_of_getElem? (i := 47) rfl))) (by decide) (backOf (W := 1) (rmCod l Z a0 hw [] a cs h0 n0 Z0 S_COMPACT_STRINGS hcs F_coder_a) hZ (hw _ (List.mem_of_getElem? (i := 49) rfl)) (hw _ (List.mem_of_getElem? (i := 8) rfl)) (by decide) (by decide)) q_3a q_3c (g := (mkF m 6 #[.val (.ref a)] [(.ref a), (.int (1 : Int32))])) rfl (by rw [hml]; rfl) (Steps.refl _) (argsL := []) (rest := [(.int (1 : Int32))]) (lenOf pd_10 rfl) rfl (by show 2 * 0 + _ ≤ _; exact Nat.le_of_eq rfl) (hb hby d9_6) (fun _ _ => ⟨rfl, e_1, (by decide : 0 + 0 ≤ _), (by decide : 0 + 0 ≤ _)⟩)
  dsimp only [Pt.U, Pt.locs, Pt.cells, Pt.slots] at X_3 l_3 y_3 z_3 st_3 hQ_3
  obtain rfl : kc_3 = 0 := y_3
  obtain rfl : nc_3 = 0 := z_3
  obtain ⟨h_3, e_3⟩ : ∃ hh, T_3.heap = hh := ⟨_, rfl⟩
  rw [e_3] at hQ_3
  obtain ⟨rfl, N_3q, sm_3⟩ := hQ_3
  have N_3 : Fr n0 L_3 := by rw [l_3]; exact Fr.app N0 N_3q
  refine Go.st (fun _ kk => st_3.trans kk) ?_
  rw [sm_3] at e_3
  show Go p e below s _ _ _ T_3 (mkF m 9 #[.val (.ref a)] [(.int (0 : Int32)), (.int (1 : Int32))])
  refine Go.st (fun _ => XS.ishr X_3.here hx rfl (hb hby d9_9) rfl) ?_
  show Go p e below s _ _ _ T_3 (mkF m 10 #[.val (.ref a)] [(.int ((1 : Int32) >>> ((0 : Int32) &&& 31)))])
  rw [show ((1 : Int32) >>> ((0 : Int32) &&& 31)) = (1 : Int32) from by decide]
  show Go p e below s _ _ _ T_3 (mkF m 10 #[.val (.ref a)] [(.int (1 : Int32))])
  exact Go.retI X_3 hx hlk Bd.returns (hb hby d9_10) (by rw [e_3]; exact ⟨rfl, N_3, rfl⟩) (by decide) (by decide)
theorem d7_0 : decode prog_20_method_2_code 0 = .ok (.aload_n 0, 1) := by decide +kernel
theorem d7_1 : decode prog_20_method_2_code 1 = .ok (.ifnull 20, 3) := by decide +kernel
theorem d7_4 : decode prog_20_method_2_code 4 = .ok (.aload_n 0, 1) := by decide +kernel
theorem d7_5 : decode prog_20_method_2_code 5 = .ok (.invokevirtual 37, 3) := by decide +kernel
theorem d7_8 : decode prog_20_method_2_code 8 = .ok (.ifCond .ne 13, 3) := by decide +kernel
theorem d7_11 : decode prog_20_method_2_code 11 = .ok (.aload_n 0, 1) := by decide +kernel
theorem d7_12 : decode prog_20_method_2_code 12 = .ok (.invokevirtual 43, 3) := by decide +kernel
theorem d7_15 : decode prog_20_method_2_code 15 = .ok (.sipush 1024, 3) := by decide +kernel
theorem d7_18 : decode prog_20_method_2_code 18 = .ok (.if_icmp .le 5, 3) := by decide +kernel
theorem d7_23 : decode prog_20_method_2_code 23 = .ok (.iconst 0, 1) := by decide +kernel
theorem d7_24 : decode prog_20_method_2_code 24 = .ok (.istore_n 1, 1) := by decide +kernel
theorem d7_25 : decode prog_20_method_2_code 25 = .ok (.iload_n 1, 1) := by decide +kernel
theorem d7_26 : decode prog_20_method_2_code 26 = .ok (.aload_n 0, 1) := by decide +kernel
theorem d7_27 : decode prog_20_method_2_code 27 = .ok (.invokevirtual 43, 3) := by decide +kernel
theorem d7_30 : decode prog_20_method_2_code 30 = .ok (.if_icmp .ge 22, 3) := by decide +kernel
theorem d7_33 : decode prog_20_method_2_code 33 = .ok (.aload_n 0, 1) := by decide +kernel
theorem d7_34 : decode prog_20_method_2_code 34 = .ok (.iload_n 1, 1) := by decide +kernel
theorem d7_35 : decode prog_20_method_2_code 35 = .ok (.invokevirtual 47, 3) := by decide +kernel
theorem pd_13 : parseMethodDescriptor "(I)C" = some ⟨[.int], some .char⟩ := by decide +kernel
theorem d7_38 : decode prog_20_method_2_code 38 = .ok (.invokestatic 51, 3) := by decide +kernel
theorem d7_41 : decode prog_20_method_2_code 41 = .ok (.ifCond .ne 5, 3) := by decide +kernel
theorem d7_46 : decode prog_20_method_2_code 46 = .ok (.iinc 1 1, 3) := by decide +kernel
theorem d7_49 : decode prog_20_method_2_code 49 = .ok (.goto (-24), 3) := by decide +kernel
theorem d7_52 : decode prog_20_method_2_code 52 = .ok (.iconst 1, 1) := by decide +kernel
theorem d7_53 : decode prog_20_method_2_code 53 = .ok (.ireturn, 1) := by decide +kernel
theorem ef_rmVa46 (m : MethodId) (a : Addr) : entryFrame m #[(.ref a)] 2 = mkF m 0 #[.val (.ref a), .unset] [] := by first | (simp [entryFrame, mkF, argsToLocals, Value.category]; done) | rfl
def QrmVa46 (Z : State) (a : Addr) (cs : Int32) (d : Addr) (kd : ClassId) (fm : Value) (h0 : Heap) (n0 : Nat) (rV : Option Value) (hE : Heap) (LE : List Loc) : Prop := rV = some (.int (1 : Int32)) ∧ Fr n0 LE ∧ Keep h0 hE []
set_option maxRecDepth 65536 in
set_option maxHeartbeats 40000000 in
theorem rmVa46 (l : Launch) (Z : State) (a0 : Array Value) (hw : ∀ d ∈ tables_1, d.before a0 Z = true) (ws : List Jvm.Cond) (a : Addr) (cs : Int32) (d : Addr) (kd : ClassId) (fm : Value) (h0 : Heap) (n0 : Nat) (Z0 : n0 ≤ h0.size) (S_COMPACT_STRINGS : Sta Z h0 "java/lang/String" "COMPACT_STRINGS" "Z" (.int cs)) (hcs : ¬ (cs = (0 : Int32))) (S_SIOOBE_FORMATTER : Sta Z h0 "jdk/internal/util/Preconditions" "SIOOBE_FORMATTER" "Ljava/util/function/BiFunction;" fm) (rf_fm : fm.isRef = true) (E_a : Exa Z h0 a "java/lang/String") (F_coder_a : Fld Z h0 a "java/lang/String" "coder" "B" (.int (0 : Int32))) (F_value_a : Fld Z h0 a "java/lang/String" "value" "[B" (.ref d)) (V_d : Arv Z h0 d kd .byte (1 : Int32) [(.int (46 : Int32))] (.int (0 : Int32))) :
    MetFree l (⟨"com/example/contextwire/contextwire/RequestId", "isValid", "(Ljava/lang/String;)Z"⟩ : MethodName) (head1 (Jvm.Cond.code (⟨"com/example/contextwire/contextwire/RequestId", "isValid", "(Ljava/lang/String;)Z"⟩ : MethodName) prog_20_method_2_code 2 (some .boolean) :: ws) ({ frames := 5, cells := 2, slots := 36, locals := 71 } : Room)) (fun aA UA => aA = #[(.ref a)] ∧ Z.Warmed39 UA.vm ∧ UA.heap = h0 ∧ CHv Z consts_1 UA.vm h0) (fun _ _ _ _ _ => True) (fun _ UA oA UB => ∃ rV LE, oA = .returned rV ∧ QrmVa46 Z a cs d kd fm h0 n0 rV UB.heap LE ∧ CHr Z consts_1 UA.vm UA.heap UB.vm UB.heap ∧ ReturnedEndW UA oA UB LE ({ frames := 5, cells := 2, slots := 36, locals := 71 } : Room).cells ({ frames := 5, cells := 2, slots := 36, locals := 71 } : Room).slots) := by
  refine MetFree.of_bodySF (plainFor_of_name pn_3) hisR ?_
  intro p e s m args below meth c s₁ Bd hml0 hP hK
  obtain ⟨rfl, hZ, hh, hCH⟩ := hP
  have wS := ws1 hw
  have hEL := ew1 hw
  have HE0 := OwnH.start hh hCH
  have hZ : Z.Warmed39 (s.setVm s.vm).vm := hZ
  have hx := Bd.exec
  have hby := Bd.bytes
  have hml : c.maxLocals = 2 := hml0
  have hown : (s.setVm s.vm).vm.findClass "com/example/contextwire/contextwire/RequestId" = some m.cls := findClass_of_methodNamed Bd.named
  have hnm := (name_of_methodNamed Bd.named Bd.method).1
  have hlk := Bd.notSynchronized
  have X0 : Stand p l e ({ frames := 5, cells := 2, slots := 36, locals := 71 } : Room) (s.setVm s.vm) m #[(.ref a)] below meth c s₁ [] 0 0 := Stand.of_body Bd
  have e0 : s₁.heap = h0 := by rw [← hh, Bd.state]; rfl
  have N0 := Fr.nil n0
  show GoS p e below s Z consts_1 (QrmVa46 Z a cs d kd fm h0 n0) ({ frames := 5, cells := 2, slots := 36, locals := 71 } : Room).cells ({ frames := 5, cells := 2, slots := 36, locals := 71 } : Room).slots s₁ (entryFrame m #[(.ref a)] 2)
  refine GoS.eq (ef_rmVa46 m a) ?_
  show GoS p e below s _ _ _ _ _ s₁ (mkF m 0 #[.val (.ref a), .unset] [])
  refine GoS.st (fun _ => XS.aloadN X0.here hx rfl (hb hby d7_0) rfl rfl) ?_
  show GoS p e below s _ _ _ _ _ s₁ (mkF m 1 #[.val (.ref a), .unset] [(.ref a)])
  refine GoS.st (fun _ => XS.ifnullNo X0.here hx rfl (hb hby d7_1) rfl) ?_
  show GoS p e below s _ _ _ _ _ s₁ (mkF m 4 #[.val (.ref a), .unset] [])
  refine GoS.st (fun _ => XS.aloadN X0.here hx rfl (hb hby d7_4) rfl rfl) ?_
  show GoS p e below s _ _ _ _ _ s₁ (mkF m 5 #[.val (.ref a), .unset] [(.ref a)])
  obtain ⟨cq_1, kq_1, q_1a, q_1b, q_1c⟩ := isOf hZ e0 E_a
  obtain ⟨_, _, ⟨T_1, L_1, kc_1, nc_1⟩, -, X_1, ⟨Lc_1, hQ_1, l_1, y_1, z_1⟩, st_1⟩ := X0.virtualBack hx (y := (⟨"java/lang/String", "isEmpty", "()Z"⟩ : MethodName)) (z := (⟨"java/lang/String", "isEmpty", "()Z"⟩ : MethodName)) hown (mvT hZ (hw _ (List.mem_of_getElem? (i := 35) rfl))) (mvT hZ (hw _ (List.mem_of_getElem? (i := 36) rfl))) (notFace_of_selects (args := #[]) (mvT hZ (hw _ (List.mem_of_getElem? (i := 38) rfl)))) (mvT hZ (hw _ (List.mem_of_getElem? (i := 38) rfl))) (mvT hZ (hw _ (List.mem_of_getElem? (i := 37) rfl))) (by decide) (backOf (W := 0) (rmEmp l Z a0 hw [] a d kd [(.int (46 : Int32))] h0 n0 Z0 F_value_a V_d) hZ (hw _ (List.mem_of_getElem? (i := 39) rfl)) (hw _ (List.mem_of_getElem? (i := 8) rfl)) (by decide) (by decide)) q_1a q_1c (g := (mkF m 5 #[.val (.ref a), .unset] [(.ref a)])) rfl (by rw [hml]; rfl) (Steps.refl _) (argsL := []) (rest := []) (lenOf pd_5 rfl) rfl (by show 2 * 0 + _ ≤ _; exact Nat.le_of_eq rfl) (hb hby d7_5) (fun _ _ => ⟨rfl, e0, (by decide : 0 + 0 ≤ _), (by decide : 0 + 0 ≤ _)⟩)
  dsimp only [Pt.U, Pt.locs, Pt.cells, Pt.slots] at X_1 l_1 y_1 z_1 st_1 hQ_1
  obtain rfl : kc_1 = 0 := y_1
  obtain rfl : nc_1 = 0 := z_1
  obtain ⟨h_1, e_1⟩ : ∃ hh, T_1.heap = hh := ⟨_, rfl⟩
  rw [e_1] at hQ_1
  obtain ⟨rfl, N_1q, sm_1⟩ := hQ_1
  have N_1 : Fr n0 L_1 := by rw [l_1]; exact Fr.app N0 N_1q
  refine GoS.st (fun _ kk => st_1.trans kk) ?_
  rw [sm_1] at e_1
  show GoS p e below s _ _ _ _ _ T_1 (mkF m 8 #[.val (.ref a), .unset] [(.int (0 : Int32))])
  refine GoS.st (fun _ => XS.ifNo X_1.here hx rfl (hb hby d7_8) rfl ((if0 _ _).trans (teq (by decide : (0 : Int32) = (0 : Int32))).2)) ?_
  show GoS p e below s _ _ _ _ _ T_1 (mkF m 11 #[.val (.ref a), .unset] [])
  refine GoS.st (fun _ => XS.aloadN X_1.here hx rfl (hb hby d7_11) rfl rfl) ?_
  show GoS p e below s _ _ _ _ _ T_1 (mkF m 12 #[.val (.ref a), .unset] [(.ref a)])
  obtain ⟨cq_2, kq_2, q_2a, q_2b, q_2c⟩ := isOf hZ e_1 E_a
  obtain ⟨_, _, ⟨T_2, L_2, kc_2, nc_2⟩, -, X_2, ⟨Lc_2, hQ_2, l_2, y_2, z_2⟩, st_2⟩ := X_1.virtualBack hx (y := (⟨"java/lang/String", "length", "()I"⟩ : MethodName)) (z := (⟨"java/lang/String", "length", "()I"⟩ : MethodName)) hown (mvT hZ (hw _ (List.mem_of_getElem? (i := 40) rfl))) (mvT hZ (hw _ (List.mem_of_getElem? (i := 41) rfl))) (notFace_of_selects (args := #[]) (mvT hZ (hw _ (List.mem_of_getElem? (i := 43) rfl)))) (mvT hZ (hw _ (List.mem_of_getElem? (i := 43) rfl))) (mvT hZ (hw _ (List.mem_of_getElem? (i := 42) rfl))) (by decide) (backOf (W := 0) (rmLen1 l Z a0 hw [] a cs d kd [(.int (46 : Int32))] h0 n0 Z0 S_COMPACT_STRINGS hcs E_a F_coder_a F_value_a V_d) hZ (hw _ (List.mem_of_getElem? (i := 44) rfl)) (hw _ (List.mem_of_getElem? (i := 8) rfl)) (by decide) (by decide)) q_2a q_2c (g := (mkF m 12 #[.val (.ref a), .unset] [(.ref a)])) rfl (by rw [hml]; rfl) (Steps.refl _) (argsL := []) (rest := []) (lenOf pd_11 rfl) rfl (by show 2 * 0 + _ ≤ _; exact Nat.le_of_eq rfl) (hb hby d7_12) (fun _ _ => ⟨rfl, e_1, (by decide : 0 + 0 ≤ _), (by decide : 0 + 0 ≤ _)⟩)
  dsimp only [Pt.U, Pt.locs, Pt.cells, Pt.slots] at X_2 l_2 y_2 z_2 st_2 hQ_2
  obtain rfl : kc_2 = 0 := y_2
  obtain rfl : nc_2 = 0 := z_2
  obtain ⟨h_2, e_2⟩ : ∃ hh, T_2.heap = hh := ⟨_, rfl⟩
  rw [e_2] at hQ_2
  obtain ⟨rfl, N_2q, sm_2⟩ := hQ_2
  have N_2 : Fr n0 L_2 := by rw [l_2]; exact Fr.app N_1 N_2q
  refine GoS.st (fun _ kk => st_2.trans kk) ?_
  rw [sm_2] at e_2
  show GoS p e below s _ _ _ _ _ T_2 (mkF m 15 #[.val (.ref a), .unset] [(.int (1 : Int32))])
  refine GoS.st (fun _ => XS.sipush X_2.here hx rfl (hb hby d7_15)) ?_
  show GoS p e below s _ _ _ _ _ T_2 (mkF m 18 #[.val (.ref a), .unset] [(.int (1024 : Int32)), (.int (1 : Int32))])
  refine GoS.st (fun _ => XS.icmpYes X_2.here hx rfl (pc0 := 18) (pc' := 23) rfl (hb hby d7_18) rfl (flt (by decide : ¬ ((1024 : Int32) < (1 : Int32)))).2.2.2 (by decide) (by decide)) ?_
  show GoS p e below s _ _ _ _ _ T_2 (mkF m 23 #[.val (.ref a), .unset] [])
  refine GoS.st (fun _ => XS.iconst X_2.here hx rfl (hb hby d7_23)) ?_
  show GoS p e below s _ _ _ _ _ T_2 (mkF m 24 #[.val (.ref a), .unset] [(.int (0 : Int32))])
  refine GoS.st (fun _ => XS.istoreN X_2.here hx rfl (hb hby d7_24) rfl (l' := #[.val (.ref a), .val (.int (0 : Int32))]) rfl) ?_
  show GoS p e below s _ _ _ _ _ T_2 (mkF m 25 #[.val (.ref a), .val (.int (0 : Int32))] [])
  refine GoS.st (fun _ => XS.iloadN X_2.here hx rfl (hb hby d7_25) rfl) ?_
  show GoS p e below s _ _ _ _ _ T_2 (mkF m 26 #[.val (.ref a), .val (.int (0 : Int32))] [(.int (0 : Int32))])
  refine GoS.st (fun _ => XS.aloadN X_2.here hx rfl (hb hby d7_26) rfl rfl) ?_
  show GoS p e below s _ _ _ _ _ T_2 (mkF m 27 #[.val (.ref a), .val (.int (0 : Int32))] [(.ref a), (.int (0 : Int32))])
  obtain ⟨cq_3, kq_3, q_3a, q_3b, q_3c⟩ := isOf hZ e_2 E_a
  obtain ⟨_, _, ⟨T_3, L_3, kc_3, nc_3⟩, -, X_3, ⟨Lc_3, hQ_3, l_3, y_3, z_3⟩, st_3⟩ := X_2.virtualBack hx (y := (⟨"java/lang/String", "length", "()I"⟩ : MethodName)) (z := (⟨"java/lang/String", "length", "()I"⟩ : MethodName)) hown (mvT hZ (hw _ (List.mem_of_getElem? (i := 40) rfl))) (mvT hZ (hw _ (List.mem_of_getElem? (i := 41) rfl))) (notFace_of_selects (args := #[]) (mvT hZ (hw _ (List.mem_of_getElem? (i := 43) rfl)))) (mvT hZ (hw _ (List.mem_of_getElem? (i := 43) rfl))) (mvT hZ (hw _ (List.mem_of_getElem? (i := 42) rfl))) (by decide) (backOf (W := 1) (rmLen1 l Z a0 hw [] a cs d kd [(.int (46 : Int32))] h0 n0 Z0 S_COMPACT_STRINGS hcs E_a F_coder_a F_value_a V_d) hZ (hw _ (List.mem_of_getElem? (i := 44) rfl)) (hw _ (List.mem_of_getElem? (i := 8) rfl)) (by decide) (by decide)) q_3a q_3c (g := (mkF m 27 #[.val (.ref a), .val (.int (0 : Int32))] [(.ref a), (.int (0 : Int32))])) rfl (by rw [hml]; rfl) (Steps.refl _) (argsL := []) (rest := [(.int (0 : Int32))]) (lenOf pd_11 rfl) rfl (by show 2 * 0 + _ ≤ _; exact Nat.le_of_eq rfl) (hb hby d7_27) (fun _ _ => ⟨rfl, e_2, (by decide : 0 + 0 ≤ _), (by decide : 0 + 0 ≤ _)⟩)
  dsimp only [Pt.U, Pt.locs, Pt.cells, Pt.slots] at X_3 l_3 y_3 z_3 st_3 hQ_3
  obtain rfl : kc_3 = 0 := y_3
  obtain rfl : nc_3 = 0 := z_3
  obtain ⟨h_3, e_3⟩ : ∃ hh, T_3.heap = hh := ⟨_, rfl⟩
  rw [e_3] at hQ_3
  obtain ⟨rfl, N_3q, sm_3⟩ := hQ_3
  have N_3 : Fr n0 L_3 := by rw [l_3]; exact Fr.app N_2 N_3q
  refine GoS.st (fun _ kk => st_3.trans kk) ?_
  rw [sm_3] at e_3
  show GoS p e below s _ _ _ _ _ T_3 (mkF m 30 #[.val (.ref a), .val (.int (0 : Int32))] [(.int (1 : Int32)), (.int (0 : Int32))])
  refine GoS.st (fun _ => XS.icmpNo X_3.here hx rfl (hb hby d7_30) rfl (tlt (by decide : (0 : Int32) < (1 : Int32))).2.1) ?_
  show GoS p e below s _ _ _ _ _ T_3 (mkF m 33 #[.val (.ref a), .val (.int (0 : Int32))] [])
  refine GoS.st (fun _ => XS.aloadN X_3.here hx rfl (hb hby d7_33) rfl rfl) ?_
  show GoS p e below s _ _ _ _ _ T_3 (mkF m 34 #[.val (.ref a), .val (.int (0 : Int32))] [(.ref a)])
  refine GoS.st (fun _ => XS.iloadN X_3.here hx rfl (hb hby d7_34) rfl) ?_
  show GoS p e below s _ _ _ _ _ T_3 (mkF m 35 #[.val (.ref a), .val (.int (0 : Int32))] [(.int (0 : Int32)), (.ref a)])
  obtain ⟨cq_4, kq_4, q_4a, q_4b, q_4c⟩ := isOf hZ e_3 E_a
  obtain ⟨_, _, ⟨T_4, L_4, kc_4, nc_4⟩, -, X_4, ⟨Lc_4, hQ_4, l_4, y_4, z_4⟩, st_4⟩ := X_3.virtualBack hx (y := (⟨"java/lang/String", "charAt", "(I)C"⟩ : MethodName)) (z := (⟨"java/lang/String", "charAt", "(I)C"⟩ : MethodName)) hown (mvT hZ (hw _ (List.mem_of_getElem? (i := 50) rfl))) (mvT hZ (hw _ (List.mem_of_getElem? (i := 51) rfl))) (notFace_of_selects (args := #[]) (mvT hZ (hw _ (List.mem_of_getElem? (i := 53) rfl)))) (mvT hZ (hw _ (List.mem_of_getElem? (i := 53) rfl))) (mvT hZ (hw _ (List.mem_of_getElem? (i := 52) rfl))) (by decide) (backOf (W := 0) (rmCa46 l Z a0 hw [] a cs d kd fm h0 n0 Z0 S_COMPACT_STRINGS hcs S_SIOOBE_FORMATTER rf_fm E_a F_coder_a F_value_a V_d) hZ (hw _ (List.mem_of_getElem? (i := 54) rfl)) (hw _ (List.mem_of_getElem? (i := 8) rfl)) (by decide) (by decide)) q_4a q_4c (g := (mkF m 35 #[.val (.ref a), .val (.int (0 : Int32))] [(.int (0 : Int32)), (.ref a)])) rfl (by rw [hml]; rfl) (Steps.refl _) (argsL := [(.int (0 : Int32))]) (rest := []) (lenOf pd_13 rfl) rfl (by show 2 * 0 + _ ≤ _; exact Nat.le_of_eq rfl) (hb hby d7_35) (fun _ _ => ⟨rfl, e_3, (by decide : 0 + 0 ≤ _), (by decide : 0 + 0 ≤ _)⟩)
  dsimp only [Pt.U, Pt.locs, Pt.cells, Pt.slots] at X_4 l_4 y_4 z_4 st_4 hQ_4
  obtain rfl : kc_4 = 0 := y_4
  obtain rfl : nc_4 = 0 := z_4
  obtain ⟨h_4, e_4⟩ : ∃ hh, T_4.heap = hh := ⟨_, rfl⟩
  rw [e_4] at hQ_4
  obtain ⟨rfl, N_4q, sm_4⟩ := hQ_4
  have N_4 : Fr n0 L_4 := by rw [l_4]; exact Fr.app N_3 N_4q
  refine GoS.st (fun _ kk => st_4.trans kk) ?_
  rw [sm_4] at e_4
  show GoS p e below s _ _ _ _ _ T_4 (mkF m 38 #[.val (.ref a), .val (.int (0 : Int32))] [(.int (46 : Int32))])
  obtain ⟨_, _, ⟨T_5, L_5, kc_5, nc_5⟩, -, X_5, sn_5, gg_5, ⟨Lc_5, hQ_5, l_5, y_5, z_5, CH_5⟩, st_5⟩ := callSS X_4 hx (y := (⟨"com/example/contextwire/contextwire/RequestId", "isIdChar", "(C)Z"⟩ : MethodName)) hown (mvT hZ (hw _ (List.mem_of_getElem? (i := 71) rfl))) (mvT hZ (hw _ (List.mem_of_getElem? (i := 72) rfl))) (mvT hZ (hw _ (List.mem_of_getElem? (i := 4) rfl))) (mvT hZ (hw _ (List.mem_of_getElem? (i := 73) rfl))) (by decide) (backOfSH (s := s) (vm0 := s.vm) (W := 0) (rmId46 l Z a0 hw [] cs h0 n0 Z0 S_COMPACT_STRINGS hcs) hZ (hw _ (List.mem_of_getElem? (i := 73) rfl)) (hw _ (List.mem_of_getElem? (i := 4) rfl)) (by decide) (by decide) hEL HE0.chv) (g := (mkF m 38 #[.val (.ref a), .val (.int (0 : Int32))] [(.int (46 : Int32))])) rfl (by rw [hml]; rfl) (argsL := [(.int (46 : Int32))]) (rest := []) (lenOf pd_0 rfl) rfl (by show 2 * 0 + _ ≤ _; exact Nat.le_of_eq rfl) (hb hby d7_38) (fun _ _ => ⟨rfl, e_4, (by decide : 0 + 2 ≤ _), (by decide : 0 + 36 ≤ _)⟩)
  dsimp only [Pt.U, Pt.locs, Pt.cells, Pt.slots] at X_5 l_5 y_5 z_5 st_5 hQ_5
  obtain rfl : kc_5 = 2 := y_5
  obtain rfl : nc_5 = 36 := z_5
  dsimp only [Pt.U, Pt.locs, Pt.cells, Pt.slots] at sn_5 gg_5 CH_5
  obtain ⟨X_5, HE_5, hZ, hown⟩ := OwnH.call HE0 e_4 X_5 sn_5 gg_5 hZ hown CH_5
  obtain ⟨h_5, e_5⟩ : ∃ hh, T_5.heap = hh := ⟨_, rfl⟩
  rw [e_5] at hQ_5 HE_5 CH_5
  obtain ⟨rfl, N_5q, K_5⟩ := hQ_5
  have N_5 : Fr n0 L_5 := by rw [l_5]; exact Fr.app N_4 N_5q
  refine GoS.st (fun _ kk => st_5.trans kk) ?_
  have KK_5 : Keep h0 h_5 [] := (Keep.refl h0 []).trans K_5 all0
  have z_5q : n0 ≤ h_5.size := Nat.le_trans Z0 K_5.1
  have ns_5 : ∀ x ∈ ([] : List Addr), ∀ cell : Cell, h0[x]? = some cell → cell.vm.isStatics = false := all0
  show GoS p e below s _ _ _ _ _ T_5 (mkF m 41 #[.val (.ref a), .val (.int (0 : Int32))] [(.int (1 : Int32))])
  refine GoS.st (fun _ => XS.ifYes X_5.here hx rfl (pc0 := 41) (pc' := 46) rfl (hb hby d7_41) rfl ((if0 _ _).trans (feq (by decide : ¬ ((1 : Int32) = (0 : Int32)))).2) (by decide) (by decide)) ?_
  show GoS p e below s _ _ _ _ _ T_5 (mkF m 46 #[.val (.ref a), .val (.int (0 : Int32))] [])
  refine GoS.st (fun _ => XS.iinc X_5.here hx rfl (hb hby d7_46) rfl (l' := #[.val (.ref a), .val (.int ((0 : Int32) + (1 : Int32)))]) rfl) ?_
  show GoS p e below s _ _ _ _ _ T_5 (mkF m 49 #[.val (.ref a), .val (.int ((0 : Int32) + (1 : Int32)))] [])
  rw [show ((0 : Int32) + (1 : Int32)) = (1 : Int32) from by decide]
  show GoS p e below s _ _ _ _ _ T_5 (mkF m 49 #[.val (.ref a), .val (.int (1 : Int32))] [])
  refine GoS.st (fun _ => XS.goto X_5.here hx rfl (pc0 := 49) (pc' := 25) rfl (hb hby d7_49) (by decide) (by decide)) ?_
  show GoS p e below s _ _ _ _ _ T_5 (mkF m 25 #[.val (.ref a), .val (.int (1 : Int32))] [])
  refine GoS.st (fun _ => XS.iloadN X_5.here hx rfl (hb hby d7_25) rfl) ?_
  show GoS p e below s _ _ _ _ _ T_5 (mkF m 26 #[.val (.ref a), .val (.int (1 : Int32))] [(.int (1 : Int32))])
  refine GoS.st (fun _ => XS.aloadN X_5.here hx rfl (hb hby d7_26) rfl rfl) ?_
  show GoS p e below s _ _ _ _ _ T_5 (mkF m 27 #[.val (.ref a), .val (.int (1 : Int32))] [(.ref a), (.int (1 : Int32))])
  have f_7 := (own_sta_keep S_COMPACT_STRINGS K_5 ns_5)
  have f_8 := (E_a.keep K_5)
  have f_9 := (F_coder_a.keep K_5 nin0)
  have f_10 := (F_value_a.keep K_5 nin0)
  have f_11 := (V_d.keep K_5 nin0)
  obtain ⟨cq_6, kq_6, q_6a, q_6b, q_6c⟩ := isOf hZ e_5 f_8
  obtain ⟨_, _, ⟨T_6, L_6, kc_6, nc_6⟩, -, X_6, ⟨Lc_6, hQ_6, l_6, y_6, z_6⟩, st_6⟩ := X_5.virtualBack hx (y := (⟨"java/lang/String", "length", "()I"⟩ : MethodName)) (z := (⟨"java/lang/String", "length", "()I"⟩ : MethodName)) hown (mvT hZ (hw _ (List.mem_of_getElem? (i := 40) rfl))) (mvT hZ (hw _ (List.mem_of_getElem? (i := 41) rfl))) (notFace_of_selects (args := #[]) (mvT hZ (hw _ (List.mem_of_getElem? (i := 43) rfl)))) (mvT hZ (hw _ (List.mem_of_getElem? (i := 43) rfl))) (mvT hZ (hw _ (List.mem_of_getElem? (i := 42) rfl))) (by decide) (backOf (W := 1) (rmLen1 l Z a0 hw [] a cs d kd [(.int (46 : Int32))] h_5 n0 z_5q f_7 hcs f_8 f_9 f_10 f_11) hZ (hw _ (List.mem_of_getElem? (i := 44) rfl)) (hw _ (List.mem_of_getElem? (i := 8) rfl)) (by decide) (by decide)) q_6a q_6c (g := (mkF m 27 #[.val (.ref a), .val (.int (1 : Int32))] [(.ref a), (.int (1 : Int32))])) rfl (by rw [hml]; rfl) (Steps.refl _) (argsL := []) (rest := [(.int (1 : Int32))]) (lenOf pd_11 rfl) rfl (by show 2 * 0 + _ ≤ _; exact Nat.le_of_eq rfl) (hb hby d7_27) (fun _ _ => ⟨rfl, e_5, (by decide : 2 + 0 ≤ _), (by decide : 36 + 0 ≤ _)⟩)
  dsimp only [Pt.U, Pt.locs, Pt.cells, Pt.slots] at X_6 l_6 y_6 z_6 st_6 hQ_6
  obtain rfl : kc_6 = 2 := y_6
  obtain rfl : nc_6 = 36 := z_6
  obtain ⟨h_6, e_6⟩ : ∃ hh, T_6.heap = hh := ⟨_, rfl⟩
  rw [e_6] at hQ_6
  obtain ⟨rfl, N_6q, sm_6⟩ := hQ_6
  have N_6 : Fr n0 L_6 := by rw [l_6]; exact Fr.app N_5 N_6q
  refine GoS.st (fun _ kk => st_6.trans kk) ?_
  rw [sm_6] at e_6
  show GoS p e below s _ _ _ _ _ T_6 (mkF m 30 #[.val (.ref a), .val (.int (1 : Int32))] [(.int (1 : Int32)), (.int (1 : Int32))])
  refine GoS.st (fun _ => XS.icmpYes X_6.here hx rfl (pc0 := 30) (pc' := 52) rfl (hb hby d7_30) rfl (flt (by decide : ¬ ((1 : Int32) < (1 : Int32)))).2.1 (by decide) (by decide)) ?_
  show GoS p e below s _ _ _ _ _ T_6 (mkF m 52 #[.val (.ref a), .val (.int (1 : Int32))] [])
  refine GoS.st (fun _ => XS.iconst X_6.here hx rfl (hb hby d7_52)) ?_
  show GoS p e below s _ _ _ _ _ T_6 (mkF m 53 #[.val (.ref a), .val (.int (1 : Int32))] [(.int (1 : Int32))])
  exact GoS.retZ hZ hEL HE_5 e_6 X_6 hx hlk Bd.returns (hb hby d7_53) rfl (by rw [e_6]; exact ⟨rfl, N_6, KK_5⟩) (by decide) (by decide)
theorem ef_rmLc95 (m : MethodId) (d : Addr) : entryFrame m #[(.ref d), (.int (0 : Int32))] 2 = mkF m 0 #[.val (.ref d), .val (.int (0 : Int32))] [] := by first | (simp [entryFrame, mkF, argsToLocals, Value.category]; done) | rfl
def QrmLc95 (Z : State) (d : Addr) (kd : ClassId) (fm : Value) (h0 : Heap) (n0 : Nat) (rV : Option Value) (hE : Heap) (LE : List Loc) : Prop := rV = some (.int (95 : Int32)) ∧ Fr n0 LE ∧ hE = h0
set_option maxRecDepth 65536 in
set_option maxHeartbeats 40000000 in
theorem rmLc95 (l : Launch) (Z : State) (a0 : Array Value) (hw : ∀ d ∈ tables_1, d.before a0 Z = true) (ws : List Jvm.Cond) (d : Addr) (kd : ClassId) (fm : Value) (h0 : Heap) (n0 : Nat) (Z0 : n0 ≤ h0.size) (S_SIOOBE_FORMATTER : Sta Z h0 "jdk/internal/util/Preconditions" "SIOOBE_FORMATTER" "Ljava/util/function/BiFunction;" fm) (rf_fm : fm.isRef = true) (V_d : Arv Z h0 d kd .byte (1 : Int32) [(.int (95 : Int32))] (.int (0 : Int32))) :
    MetFree l (⟨"java/lang/StringLatin1", "charAt", "([BI)C"⟩ : MethodName) (head1 (Jvm.Cond.code (⟨"java/lang/StringLatin1", "charAt", "([BI)C"⟩ : MethodName) jdk_43_method_2_code 2 (some .char) :: ws) ({ frames := 2, cells := 0, slots := 0, locals := 27 } : Room)) (fun aA UA => aA = #[(.ref d), (.int (0 : Int32))] ∧ Z.Warmed39 UA.vm ∧ UA.heap = h0) (fun _ _ _ _ _ => True) (fun _ UA oA UB => ∃ rV LE, oA = .returned rV ∧ QrmLc95 Z d kd fm h0 n0 rV UB.heap LE ∧ FrameEnd UA oA UB LE ({ frames := 2, cells := 0, slots := 0, locals := 27 } : Room).cells ({ frames := 2, cells := 0, slots := 0, locals := 27 } : Room).slots) := by
  refine MetFree.of_bodySF (plainFor_of_name pn_0) hisR ?_
  intro p e s m args below meth c s₁ Bd hml0 hP hK
  obtain ⟨rfl, hZ, hh⟩ := hP
  have hx := Bd.exec
  have hby := Bd.bytes
  have hml : c.maxLocals = 2 := hml0
  have hown : s.vm.findClass "java/lang/StringLatin1" = some m.cls := findClass_of_methodNamed Bd.named
  have hnm := (name_of_methodNamed Bd.named Bd.method).1
  have hlk := Bd.notSynchronized
  have X0 : Stand p l e ({ frames := 2, cells := 0, slots := 0, locals := 27 } : Room) s m #[(.ref d), (.int (0 : Int32))] below meth c s₁ [] 0 0 := Stand.of_body Bd
  have e0 : s₁.heap = h0 := by rw [← hh, Bd.state]; rfl
  have N0 := Fr.nil n0
  show Go p e below s (QrmLc95 Z d kd fm h0 n0) ({ frames := 2, cells := 0, slots := 0, locals := 27 } : Room).cells ({ frames := 2, cells := 0, slots := 0, locals := 27 } : Room).slots s₁ (entryFrame m #[(.ref d), (.int (0 : Int32))] 2)
  refine Go.eq (ef_rmLc95 m d) ?_
  show Go p e below s _ _ _ s₁ (mkF m 0 #[.val (.ref d), .val (.int (0 : Int32))] [])
  refine Go.st (fun _ => XS.iloadN X0.here hx rfl (hb hby d13_0) rfl) ?_
  show Go p e below s _ _ _ s₁ (mkF m 1 #[.val (.ref d), .val (.int (0 : Int32))] [(.int (0 : Int32))])
  refine Go.st (fun _ => XS.aloadN X0.here hx rfl (hb hby d13_1) rfl rfl) ?_
  show Go p e below s _ _ _ s₁ (mkF m 2 #[.val (.ref d), .val (.int (0 : Int32))] [(.ref d), (.int (0 : Int32))])
  obtain ⟨cl_1, Ar_1, q_1, S_1, M_1, H_1, G_1⟩ := id V_d
  refine Go.st (fun tG => X0.arraylength hx (by rw [e0]; exact Ar_1.1) (State.isArrayOf_alike hZ.alike Ar_1.2.1) (g := (mkF m 2 #[.val (.ref d), .val (.int (0 : Int32))] [(.ref d), (.int (0 : Int32))])) rfl rfl (hb hby d13_2) tG) ?_
  rw [len_of S_1 M_1]
  show Go p e below s _ _ _ s₁ (mkF m 3 #[.val (.ref d), .val (.int (0 : Int32))] [(.int (1 : Int32)), (.int (0 : Int32))])
  obtain ⟨_, _, ⟨T_2, L_2, kc_2, nc_2⟩, -, X_2, ⟨Lc_2, hQ_2, l_2, y_2, z_2⟩, st_2⟩ := Jvm.LawKit.callS X0 hx (y := (⟨"java/lang/String", "checkIndex", "(II)V"⟩ : MethodName)) hown (mvT hZ (hw _ (List.mem_of_getElem? (i := 63) rfl))) (mvT hZ (hw _ (List.mem_of_getElem? (i := 64) rfl))) (mvT hZ (hw _ (List.mem_of_getElem? (i := 8) rfl))) (mvT hZ (hw _ (List.mem_of_getElem? (i := 65) rfl))) (by decide) (backOf (W := 0) (rmChk l Z a0 hw [] fm h0 n0 Z0 S_SIOOBE_FORMATTER rf_fm) hZ (hw _ (List.mem_of_getElem? (i := 65) rfl)) (hw _ (List.mem_of_getElem? (i := 8) rfl)) (by decide) (by decide)) (g := (mkF m 3 #[.val (.ref d), .val (.int (0 : Int32))] [(.int (1 : Int32)), (.int (0 : Int32))])) rfl (by rw [hml]; rfl) (argsL := [(.int (0 : Int32)), (.int (1 : Int32))]) (rest := []) (lenOf pd_4 rfl) rfl (by show 2 * 0 + _ ≤ _; exact Nat.le_of_eq rfl) (hb hby d13_3) (fun _ _ => ⟨rfl, e0, (by decide : 0 + 0 ≤ _), (by decide : 0 + 0 ≤ _)⟩)
  dsimp only [Pt.U, Pt.locs, Pt.cells, Pt.slots] at X_2 l_2 y_2 z_2 st_2 hQ_2
  obtain rfl : kc_2 = 0 := y_2
  obtain rfl : nc_2 = 0 := z_2
  obtain ⟨h_2, e_2⟩ : ∃ hh, T_2.heap = hh := ⟨_, rfl⟩
  rw [e_2] at hQ_2
  obtain ⟨rfl, N_2q, sm_2⟩ := hQ_2
  have N_2 : Fr n0 L_2 := by rw [l_2]; exact Fr.app N0 N_2q
  refine Go.st st_2 ?_
  rw [sm_2] at e_2
  show Go p e below s _ _ _ T_2 (mkF m 6 #[.val (.ref d), .val (.int (0 : Int32))] [])
  refine Go.st (fun _ => XS.aloadN X_2.here hx rfl (hb hby d13_6) rfl rfl) ?_
  show Go p e below s _ _ _ T_2 (mkF m 7 #[.val (.ref d), .val (.int (0 : Int32))] [(.ref d)])
  refine Go.st (fun _ => XS.iloadN X_2.here hx rfl (hb hby d13_7) rfl) ?_
  show Go p e below s _ _ _ T_2 (mkF m 8 #[.val (.ref d), .val (.int (0 : Int32))] [(.int (0 : Int32)), (.ref d)])
  obtain ⟨cl_3, Ar_3, q_3, S_3, M_3, H_3, G_3⟩ := id V_d
  have hin_3 : ¬ ((0 : Int32) < 0 ∨ cl_3.slots.size ≤ ((0 : Int32)).toNatClampNeg) := inb_of S_3 ⟨by decide, by decide⟩
  have hat_3 : cl_3.slots[((0 : Int32)).toNatClampNeg]? = some (.int (95 : Int32)) := H_3.at hin_3 rfl
  refine Go.st (fun tG => X_2.baloadBytes hx (j := (0 : Int32)) (v := (.int (95 : Int32))) (by rw [e_2]; exact Ar_3.1) (State.isArrayOf_alike hZ.alike Ar_3.2.1) Ar_3.2.2 hin_3 hat_3 (g := (mkF m 8 #[.val (.ref d), .val (.int (0 : Int32))] [(.int (0 : Int32)), (.ref d)])) rfl rfl (hb hby d13_8) tG) ?_
  show Go p e below s _ _ _ T_2 (mkF m 9 #[.val (.ref d), .val (.int (0 : Int32))] [(.int (95 : Int32))])
  refine Go.st (fun _ => XS.sipush X_2.here hx rfl (hb hby d13_9)) ?_
  show Go p e below s _ _ _ T_2 (mkF m 12 #[.val (.ref d), .val (.int (0 : Int32))] [(.int (255 : Int32)), (.int (95 : Int32))])
  refine Go.st (fun _ => XS.iand X_2.here hx rfl (hb hby d13_12) rfl) ?_
  show Go p e below s _ _ _ T_2 (mkF m 13 #[.val (.ref d), .val (.int (0 : Int32))] [(.int ((95 : Int32) &&& (255 : Int32)))])
  rw [show ((95 : Int32) &&& (255 : Int32)) = (95 : Int32) from by decide]
  show Go p e below s _ _ _ T_2 (mkF m 13 #[.val (.ref d), .val (.int (0 : Int32))] [(.int (95 : Int32))])
  refine Go.st (fun _ => XS.i2c X_2.here hx rfl (hb hby d13_13) rfl) ?_
  show Go p e below s _ _ _ T_2 (mkF m 14 #[.val (.ref d), .val (.int (0 : Int32))] [(.int ((95 : Int32).toUInt32.toUInt16.toUInt32.toInt32))])
  rw [show ((95 : Int32).toUInt32.toUInt16.toUInt32.toInt32) = (95 : Int32) from by decide]
  show Go p e below s _ _ _ T_2 (mkF m 14 #[.val (.ref d), .val (.int (0 : Int32))] [(.int (95 : Int32))])
  exact Go.retC X_2 hx hlk Bd.returns (hb hby d13_14) rfl (by rw [e_2]; exact ⟨rfl, N_2, rfl⟩) (by decide) (by decide)
theorem ef_rmCa95 (m : MethodId) (a : Addr) : entryFrame m #[(.ref a), (.int (0 : Int32))] 2 = mkF m 0 #[.val (.ref a), .val (.int (0 : Int32))] [] := by first | (simp [entryFrame, mkF, argsToLocals, Value.category]; done) | rfl
def QrmCa95 (Z : State) (a : Addr) (cs : Int32) (d : Addr) (kd : ClassId) (fm : Value) (h0 : Heap) (n0 : Nat) (rV : Option Value) (hE : Heap) (LE : List Loc) : Prop := rV = some (.int (95 : Int32)) ∧ Fr n0 LE ∧ hE = h0
set_option maxRecDepth 65536 in
set_option maxHeartbeats 40000000 in
theorem rmCa95 (l : Launch) (Z : State) (a0 : Array Value) (hw : ∀ d ∈ tables_1, d.before a0 Z = true) (ws : List Jvm.Cond) (a : Addr) (cs : Int32) (d : Addr) (kd : ClassId) (fm : Value) (h0 : Heap) (n0 : Nat) (Z0 : n0 ≤ h0.size) (S_COMPACT_STRINGS : Sta Z h0 "java/lang/String" "COMPACT_STRINGS" "Z" (.int cs)) (hcs : ¬ (cs = (0 : Int32))) (S_SIOOBE_FORMATTER : Sta Z h0 "jdk/internal/util/Preconditions" "SIOOBE_FORMATTER" "Ljava/util/function/BiFunction;" fm) (rf_fm : fm.isRef = true) (E_a : Exa Z h0 a "java/lang/String") (F_coder_a : Fld Z h0 a "java/lang/String" "coder" "B" (.int (0 : Int32))) (F_value_a : Fld Z h0 a "java/lang/String" "value" "[B" (.ref d)) (V_d : Arv Z h0 d kd .byte (1 : Int32) [(.int (95 : Int32))] (.int (0 : Int32))) :
    MetFree l (⟨"java/lang/String", "charAt", "(I)C"⟩ : MethodName) (head1 (Jvm.Cond.code (⟨"java/lang/String", "charAt", "(I)C"⟩ : MethodName) jdk_42_method_56_code 2 (some .char) :: ws) ({ frames := 3, cells := 0, slots := 0, locals := 40 } : Room)) (fun aA UA => aA = #[(.ref a), (.int (0 : Int32))] ∧ Z.Warmed39 UA.vm ∧ UA.heap = h0) (fun _ _ _ _ _ => True) (fun _ UA oA UB => ∃ rV LE, oA = .returned rV ∧ QrmCa95 Z a cs d kd fm h0 n0 rV UB.heap LE ∧ FrameEnd UA oA UB LE ({ frames := 3, cells := 0, slots := 0, locals := 40 } : Room).cells ({ frames := 3, cells := 0, slots := 0, locals := 40 } : Room).slots) := by
  refine MetFree.of_bodySF (plainFor_of_name pn_1) hisR ?_
  intro p e s m args below meth c s₁ Bd hml0 hP hK
  obtain ⟨rfl, hZ, hh⟩ := hP
  have hx := Bd.exec
  have hby := Bd.bytes
  have hml : c.maxLocals = 2 := hml0
  have hown : s.vm.findClass "java/lang/String" = some m.cls := findClass_of_methodNamed Bd.named
  have hnm := (name_of_methodNamed Bd.named Bd.method).1
  have hlk := Bd.notSynchronized
  have X0 : Stand p l e ({ frames := 3, cells := 0, slots := 0, locals := 40 } : Room) s m #[(.ref a), (.int (0 : Int32))] below meth c s₁ [] 0 0 := Stand.of_body Bd
  have e0 : s₁.heap = h0 := by rw [← hh, Bd.state]; rfl
  have N0 := Fr.nil n0
  show Go p e below s (QrmCa95 Z a cs d kd fm h0 n0) ({ frames := 3, cells := 0, slots := 0, locals := 40 } : Room).cells ({ frames := 3, cells := 0, slots := 0, locals := 40 } : Room).slots s₁ (entryFrame m #[(.ref a), (.int (0 : Int32))] 2)
  refine Go.eq (ef_rmCa95 m a) ?_
  show Go p e below s _ _ _ s₁ (mkF m 0 #[.val (.ref a), .val (.int (0 : Int32))] [])
  refine Go.st (fun _ => XS.aloadN X0.here hx rfl (hb hby d11_0) rfl rfl) ?_
  show Go p e below s _ _ _ s₁ (mkF m 1 #[.val (.ref a), .val (.int (0 : Int32))] [(.ref a)])
  obtain ⟨cq_1, kq_1, q_1a, q_1b, q_1c⟩ := isOf hZ e0 E_a
  obtain ⟨_, _, ⟨T_1, L_1, kc_1, nc_1⟩, -, X_1, ⟨Lc_1, hQ_1, l_1, y_1, z_1⟩, st_1⟩ := X0.virtualBack hx (y := (⟨"java/lang/String", "isLatin1", "()Z"⟩ : MethodName)) (z := (⟨"java/lang/String", "isLatin1", "()Z"⟩ : MethodName)) hown (mvT hZ (hw _ (List.mem_of_getElem? (i := 55) rfl))) (mvT hZ (hw _ (List.mem_of_getElem? (i := 56) rfl))) (notFace_of_selects (args := #[]) (mvT hZ (hw _ (List.mem_of_getElem? (i := 58) rfl)))) (mvT hZ (hw _ (List.mem_of_getElem? (i := 58) rfl))) (mvT hZ (hw _ (List.mem_of_getElem? (i := 57) rfl))) (by decide) (backOf (W := 0) (rmLat l Z a0 hw [] a cs h0 n0 Z0 S_COMPACT_STRINGS hcs F_coder_a) hZ (hw _ (List.mem_of_getElem? (i := 59) rfl)) (hw _ (List.mem_of_getElem? (i := 8) rfl)) (by decide) (by decide)) q_1a q_1c (g := (mkF m 1 #[.val (.ref a), .val (.int (0 : Int32))] [(.ref a)])) rfl (by rw [hml]; rfl) (Steps.refl _) (argsL := []) (rest := []) (lenOf pd_5 rfl) rfl (by show 2 * 0 + _ ≤ _; exact Nat.le_of_eq rfl) (hb hby d11_1) (fun _ _ => ⟨rfl, e0, (by decide : 0 + 0 ≤ _), (by decide : 0 + 0 ≤ _)⟩)
  dsimp only [Pt.U, Pt.locs, Pt.cells, Pt.slots] at X_1 l_1 y_1 z_1 st_1 hQ_1
  obtain rfl : kc_1 = 0 := y_1
  obtain rfl : nc_1 = 0 := z_1
  obtain ⟨h_1, e_1⟩ : ∃ hh, T_1.heap = hh := ⟨_, rfl⟩
  rw [e_1] at hQ_1
  obtain ⟨rfl, N_1q, sm_1⟩ := hQ_1
  have N_1 : Fr n0 L_1 := by rw [l_1]; exact Fr.app N0 N_1q
  refine Go.st (fun _ kk => st_1.trans kk) ?_
  rw [sm_1] at e_1
  show Go p e below s _ _ _ T_1 (mkF m 4 #[.val (.ref a), .val (.int (0 : Int32))] [(.int (1 : Int32))])
  refine Go.st (fun _ => XS.ifNo X_1.here hx rfl (hb hby d11_4) rfl ((if0 _ _).trans (feq (by decide : ¬ ((1 : Int32) = (0 : Int32)))).1)) ?_
  show Go p e below s _ _ _ T_1 (mkF m 7 #[.val (.ref a), .val (.int (0 : Int32))] [])
  refine Go.st (fun _ => XS.aloadN X_1.here hx rfl (hb hby d11_7) rfl rfl) ?_
  show Go p e below s _ _ _ T_1 (mkF m 8 #[.val (.ref a), .val (.int (0 : Int32))] [(.ref a)])
  obtain ⟨T_2, X_2, e_2, st_2⟩ := getF X_1 hx hZ hown (host := "") (Or.inl (hw _ (List.mem_of_getElem? (i := 28) rfl))) Via.refl e_1 F_value_a (g := (mkF m 8 #[.val (.ref a), .val (.int (0 : Int32))] [(.ref a)])) rfl rfl (hb hby d11_8)
  refine Go.st st_2 ?_
  show Go p e below s _ _ _ T_2 (mkF m 11 #[.val (.ref a), .val (.int (0 : Int32))] [(.ref d)])
  refine Go.st (fun _ => XS.iloadN X_2.here hx rfl (hb hby d11_11) rfl) ?_
  show Go p e below s _ _ _ T_2 (mkF m 12 #[.val (.ref a), .val (.int (0 : Int32))] [(.int (0 : Int32)), (.ref d)])
  obtain ⟨_, _, ⟨T_3, L_3, kc_3, nc_3⟩, -, X_3, ⟨Lc_3, hQ_3, l_3, y_3, z_3⟩, st_3⟩ := Jvm.LawKit.callS X_2 hx (y := (⟨"java/lang/StringLatin1", "charAt", "([BI)C"⟩ : MethodName)) hown (mvT hZ (hw _ (List.mem_of_getElem? (i := 60) rfl))) (mvT hZ (hw _ (List.mem_of_getElem? (i := 61) rfl))) (mvT hZ (hw _ (List.mem_of_getElem? (i := 13) rfl))) (mvT hZ (hw _ (List.mem_of_getElem? (i := 62) rfl))) (by decide) (backOf (W := 0) (rmLc95 l Z a0 hw [] d kd fm h0 n0 Z0 S_SIOOBE_FORMATTER rf_fm V_d) hZ (hw _ (List.mem_of_getElem? (i := 62) rfl)) (hw _ (List.mem_of_getElem? (i := 13) rfl)) (by decide) (by decide)) (g := (mkF m 12 #[.val (.ref a), .val (.int (0 : Int32))] [(.int (0 : Int32)), (.ref d)])) rfl (by rw [hml]; rfl) (argsL := [(.ref d), (.int (0 : Int32))]) (rest := []) (lenOf pd_6 rfl) rfl (by show 2 * 0 + _ ≤ _; exact Nat.le_of_eq rfl) (hb hby d11_12) (fun _ _ => ⟨rfl, e_2, (by decide : 0 + 0 ≤ _), (by decide : 0 + 0 ≤ _)⟩)
  dsimp only [Pt.U, Pt.locs, Pt.cells, Pt.slots] at X_3 l_3 y_3 z_3 st_3 hQ_3
  obtain rfl : kc_3 = 0 := y_3
  obtain rfl : nc_3 = 0 := z_3
  obtain ⟨h_3, e_3⟩ : ∃ hh, T_3.heap = hh := ⟨_, rfl⟩
  rw [e_3] at hQ_3
  obtain ⟨rfl, N_3q, sm_3⟩ := hQ_3
  have N_3 : Fr n0 L_3 := by rw [l_3]; exact Fr.app N_1 N_3q
  refine Go.st st_3 ?_
  rw [sm_3] at e_3
  show Go p e below s _ _ _ T_3 (mkF m 15 #[.val (.ref a), .val (.int (0 : Int32))] [(.int (95 : Int32))])
  exact Go.retC X_3 hx hlk Bd.returns (hb hby d11_15) rfl (by rw [e_3]; exact ⟨rfl, N_3, rfl⟩) (by decide) (by decide)
theorem ef_rmCe95 (m : MethodId)  : entryFrame m #[(.int (95 : Int32))] 1 = mkF m 0 #[.val (.int (95 : Int32))] [] := by first | (simp [entryFrame, mkF, argsToLocals, Value.category]; done) | rfl
def QrmCe95 (Z : State)  (h0 : Heap) (n0 : Nat) (rV : Option Value) (hE : Heap) (LE : List Loc) : Prop := rV = some (.int (1 : Int32)) ∧ Fr n0 LE ∧ hE = h0
set_option maxRecDepth 65536 in
set_option maxHeartbeats 40000000 in
theorem rmCe95 (l : Launch) (Z : State) (a0 : Array Value) (hw : ∀ d ∈ tables_1, d.before a0 Z = true) (ws : List Jvm.Cond)  (h0 : Heap) (n0 : Nat) (Z0 : n0 ≤ h0.size) :
    MetFree l (⟨"java/lang/StringLatin1", "canEncode", "(I)Z"⟩ : MethodName) (head1 (Jvm.Cond.code (⟨"java/lang/StringLatin1", "canEncode", "(I)Z"⟩ : MethodName) jdk_43_method_4_code 1 (some .boolean) :: ws) ({ frames := 0, cells := 0, slots := 0, locals := 0 } : Room)) (fun aA UA => aA = #[(.int (95 : Int32))] ∧ Z.Warmed39 UA.vm ∧ UA.heap = h0) (fun _ _ _ _ _ => True) (fun _ UA oA UB => ∃ rV LE, oA = .returned rV ∧ QrmCe95 Z  h0 n0 rV UB.heap LE ∧ FrameEnd UA oA UB LE ({ frames := 0, cells := 0, slots := 0, locals := 0 } : Room).cells ({ frames := 0, cells := 0, slots := 0, locals := 0 } : Room).slots) := by
  refine MetFree.of_bodySF (plainFor_of_name pn_0) hisR ?_
  intro p e s m args below meth c s₁ Bd hml0 hP hK
  obtain ⟨rfl, hZ, hh⟩ := hP
  have hx := Bd.exec
  have hby := Bd.bytes
  have hml : c.maxLocals = 1 := hml0
  have hown : s.vm.findClass "java/lang/StringLatin1" = some m.cls := findClass_of_methodNamed Bd.named
  have hnm := (name_of_methodNamed Bd.named Bd.method).1
  have hlk := Bd.notSynchronized
  have X0 : Stand p l e ({ frames := 0, cells := 0, slots := 0, locals := 0 } : Room) s m #[(.int (95 : Int32))] below meth c s₁ [] 0 0 := Stand.of_body Bd
  have e0 : s₁.heap = h0 := by rw [← hh, Bd.state]; rfl
  have N0 := Fr.nil n0
  show Go p e below s (QrmCe95 Z  h0 n0) ({ frames := 0, cells := 0, slots := 0, locals := 0 } : Room).cells ({ frames := 0, cells := 0, slots := 0, locals := 0 } : Room).slots s₁ (entryFrame m #[(.int (95 : Int32))] 1)
  refine Go.eq (ef_rmCe95 m ) ?_
  show Go p e below s _ _ _ s₁ (mkF m 0 #[.val (.int (95 : Int32))] [])
  refine Go.st (fun _ => XS.iloadN X0.here hx rfl (hb hby d20_0) rfl) ?_
  show Go p e below s _ _ _ s₁ (mkF m 1 #[.val (.int (95 : Int32))] [(.int (95 : Int32))])
  refine Go.st (fun _ => XS.ifNo X0.here hx rfl (hb hby d20_1) rfl ((if0 _ _).trans (flt (by decide : ¬ ((95 : Int32) < (0 : Int32)))).1)) ?_
  show Go p e below s _ _ _ s₁ (mkF m 4 #[.val (.int (95 : Int32))] [])
  refine Go.st (fun _ => XS.iloadN X0.here hx rfl (hb hby d20_4) rfl) ?_
  show Go p e below s _ _ _ s₁ (mkF m 5 #[.val (.int (95 : Int32))] [(.int (95 : Int32))])
  refine Go.st (fun _ => XS.sipush X0.here hx rfl (hb hby d20_5)) ?_
  show Go p e below s _ _ _ s₁ (mkF m 8 #[.val (.int (95 : Int32))] [(.int (255 : Int32)), (.int (95 : Int32))])
  refine Go.st (fun _ => XS.icmpNo X0.here hx rfl (hb hby d20_8) rfl (flt (by decide : ¬ ((255 : Int32) < (95 : Int32)))).2.2.1) ?_
  show Go p e below s _ _ _ s₁ (mkF m 11 #[.val (.int (95 : Int32))] [])
  refine Go.st (fun _ => XS.iconst X0.here hx rfl (hb hby d20_11)) ?_
  show Go p e below s _ _ _ s₁ (mkF m 12 #[.val (.int (95 : Int32))] [(.int (1 : Int32))])
  refine Go.st (fun _ => XS.goto X0.here hx rfl (pc0 := 12) (pc' := 16) rfl (hb hby d20_12) (by decide) (by decide)) ?_
  show Go p e below s _ _ _ s₁ (mkF m 16 #[.val (.int (95 : Int32))] [(.int (1 : Int32))])
  exact Go.retZ X0 hx hlk Bd.returns (hb hby d20_16) rfl (by rw [e0]; exact ⟨rfl, N0, rfl⟩) (by decide) (by decide)
theorem ef_rmIc95 (m : MethodId) (d : Addr) : entryFrame m #[(.ref d), (.int (95 : Int32)), (.int (0 : Int32)), (.int (8 : Int32))] 6 = mkF m 0 #[.val (.ref d), .val (.int (95 : Int32)), .val (.int (0 : Int32)), .val (.int (8 : Int32)), .unset, .unset] [] := by first | (simp [entryFrame, mkF, argsToLocals, Value.category]; done) | rfl
def QrmIc95 (Z : State) (d : Addr) (kd : ClassId) (h0 : Heap) (n0 : Nat) (rV : Option Value) (hE : Heap) (LE : List Loc) : Prop := rV = some (.int (6 : Int32)) ∧ Fr n0 LE ∧ hE = h0
set_option maxRecDepth 65536 in
set_option maxHeartbeats 40000000 in
theorem rmIc95 (l : Launch) (Z : State) (a0 : Array Value) (hw : ∀ d ∈ tables_1, d.before a0 Z = true) (ws : List Jvm.Cond) (d : Addr) (kd : ClassId) (h0 : Heap) (n0 : Nat) (Z0 : n0 ≤ h0.size) (V_d : Arv Z h0 d kd .byte (8 : Int32) [(.int (43 : Int32)), (.int (47 : Int32)), (.int (61 : Int32)), (.int (45 : Int32)), (.int (124 : Int32)), (.int (46 : Int32)), (.int (95 : Int32)), (.int (35 : Int32))] (.int (0 : Int32))) :
    MetFree l (⟨"java/lang/StringLatin1", "indexOfChar", "([BIII)I"⟩ : MethodName) (head1 (Jvm.Cond.code (⟨"java/lang/StringLatin1", "indexOfChar", "([BIII)I"⟩ : MethodName) jdk_43_method_23_code 6 (some .int) :: ws) ({ frames := 0, cells := 0, slots := 0, locals := 0 } : Room)) (fun aA UA => aA = #[(.ref d), (.int (95 : Int32)), (.int (0 : Int32)), (.int (8 : Int32))] ∧ Z.Warmed39 UA.vm ∧ UA.heap = h0) (fun _ _ _ _ _ => True) (fun _ UA oA UB => ∃ rV LE, oA = .returned rV ∧ QrmIc95 Z d kd h0 n0 rV UB.heap LE ∧ FrameEnd UA oA UB LE ({ frames := 0, cells := 0, slots := 0, locals := 0 } : Room).cells ({ frames := 0, cells := 0, slots := 0, locals := 0 } : Room).slots) := by
  refine MetFree.of_bodySF (plainFor_of_name pn_0) hisR ?_
  intro p e s m args below meth c s₁ Bd hml0 hP hK
  obtain ⟨rfl, hZ, hh⟩ := hP
  have hx := Bd.exec
  have hby := Bd.bytes
  have hml : c.maxLocals = 6 := hml0
  have hown : s.vm.findClass "java/lang/StringLatin1" = some m.cls := findClass_of_methodNamed Bd.named
  have hnm := (name_of_methodNamed Bd.named Bd.method).1
  have hlk := Bd.notSynchronized
  have X0 : Stand p l e ({ frames := 0, cells := 0, slots := 0, locals := 0 } : Room) s m #[(.ref d), (.int (95 : Int32)), (.int (0 : Int32)), (.int (8 : Int32))] below meth c s₁ [] 0 0 := Stand.of_body Bd
  have e0 : s₁.heap = h0 := by rw [← hh, Bd.state]; rfl
  have N0 := Fr.nil n0
  show Go p e below s (QrmIc95 Z d kd h0 n0) ({ frames := 0, cells := 0, slots := 0, locals := 0 } : Room).cells ({ frames := 0, cells := 0, slots := 0, locals := 0 } : Room).slots s₁ (entryFrame m #[(.ref d), (.int (95 : Int32)), (.int (0 : Int32)), (.int (8 : Int32))] 6)
  refine Go.eq (ef_rmIc95 m d) ?_
  show Go p e below s _ _ _ s₁ (mkF m 0 #[.val (.ref d), .val (.int (95 : Int32)), .val (.int (0 : Int32)), .val (.int (8 : Int32)), .unset, .unset] [])
  refine Go.st (fun _ => XS.iloadN X0.here hx rfl (hb hby d23_0) rfl) ?_
  show Go p e below s _ _ _ s₁ (mkF m 1 #[.val (.ref d), .val (.int (95 : Int32)), .val (.int (0 : Int32)), .val (.int (8 : Int32)), .unset, .unset] [(.int (95 : Int32))])
  refine Go.st (fun _ => XS.i2b X0.here hx rfl (hb hby d23_1) rfl) ?_
  show Go p e below s _ _ _ s₁ (mkF m 2 #[.val (.ref d), .val (.int (95 : Int32)), .val (.int (0 : Int32)), .val (.int (8 : Int32)), .unset, .unset] [(.int ((95 : Int32).toInt8.toInt32))])
  rw [show ((95 : Int32).toInt8.toInt32) = (95 : Int32) from by decide]
  show Go p e below s _ _ _ s₁ (mkF m 2 #[.val (.ref d), .val (.int (95 : Int32)), .val (.int (0 : Int32)), .val (.int (8 : Int32)), .unset, .unset] [(.int (95 : Int32))])
  refine Go.st (fun _ => XS.istore X0.here hx rfl (hb hby d23_2) rfl (l' := #[.val (.ref d), .val (.int (95 : Int32)), .val (.int (0 : Int32)), .val (.int (8 : Int32)), .val (.int (95 : Int32)), .unset]) rfl) ?_
  show Go p e below s _ _ _ s₁ (mkF m 4 #[.val (.ref d), .val (.int (95 : Int32)), .val (.int (0 : Int32)), .val (.int (8 : Int32)), .val (.int (95 : Int32)), .unset] [])
  refine Go.st (fun _ => XS.iloadN X0.here hx rfl (hb hby d23_4) rfl) ?_
  show Go p e below s _ _ _ s₁ (mkF m 5 #[.val (.ref d), .val (.int (95 : Int32)), .val (.int (0 : Int32)), .val (.int (8 : Int32)), .val (.int (95 : Int32)), .unset] [(.int (0 : Int32))])
  refine Go.st (fun _ => XS.istore X0.here hx rfl (hb hby d23_5) rfl (l' := #[.val (.ref d), .val (.int (95 : Int32)), .val (.int (0 : Int32)), .val (.int (8 : Int32)), .val (.int (95 : Int32)), .val (.int (0 : Int32))]) rfl) ?_
  show Go p e below s _ _ _ s₁ (mkF m 7 #[.val (.ref d), .val (.int (95 : Int32)), .val (.int (0 : Int32)), .val (.int (8 : Int32)), .val (.int (95 : Int32)), .val (.int (0 : Int32))] [])
  refine Go.st (fun _ => XS.iload X0.here hx rfl (hb hby d23_7) rfl) ?_
  show Go p e below s _ _ _ s₁ (mkF m 9 #[.val (.ref d), .val (.int (95 : Int32)), .val (.int (0 : Int32)), .val (.int (8 : Int32)), .val (.int (95 : Int32)), .val (.int (0 : Int32))] [(.int (0 : Int32))])
  refine Go.st (fun _ => XS.iloadN X0.here hx rfl (hb hby d23_9) rfl) ?_
  show Go p e below s _ _ _ s₁ (mkF m 10 #[.val (.ref d), .val (.int (95 : Int32)), .val (.int (0 : Int32)), .val (.int (8 : Int32)), .val (.int (95 : Int32)), .val (.int (0 : Int32))] [(.int (8 : Int32)), (.int (0 : Int32))])
  refine Go.st (fun _ => XS.icmpNo X0.here hx rfl (hb hby d23_10) rfl (tlt (by decide : (0 : Int32) < (8 : Int32))).2.1) ?_
  show Go p e below s _ _ _ s₁ (mkF m 13 #[.val (.ref d), .val (.int (95 : Int32)), .val (.int (0 : Int32)), .val (.int (8 : Int32)), .val (.int (95 : Int32)), .val (.int (0 : Int32))] [])
  refine Go.st (fun _ => XS.aloadN X0.here hx rfl (hb hby d23_13) rfl rfl) ?_
  show Go p e below s _ _ _ s₁ (mkF m 14 #[.val (.ref d), .val (.int (95 : Int32)), .val (.int (0 : Int32)), .val (.int (8 : Int32)), .val (.int (95 : Int32)), .val (.int (0 : Int32))] [(.ref d)])
  refine Go.st (fun _ => XS.iload X0.here hx rfl (hb hby d23_14) rfl) ?_
  show Go p e below s _ _ _ s₁ (mkF m 16 #[.val (.ref d), .val (.int (95 : Int32)), .val (.int (0 : Int32)), .val (.int (8 : Int32)), .val (.int (95 : Int32)), .val (.int (0 : Int32))] [(.int (0 : Int32)), (.ref d)])
  obtain ⟨cl_1, Ar_1, q_1, S_1, M_1, H_1, G_1⟩ := id V_d
  have hin_1 : ¬ ((0 : Int32) < 0 ∨ cl_1.slots.size ≤ ((0 : Int32)).toNatClampNeg) := inb_of S_1 ⟨by decide, by decide⟩
  have hat_1 : cl_1.slots[((0 : Int32)).toNatClampNeg]? = some (.int (43 : Int32)) := H_1.at hin_1 rfl
  refine Go.st (fun tG => X0.baloadBytes hx (j := (0 : Int32)) (v := (.int (43 : Int32))) (by rw [e0]; exact Ar_1.1) (State.isArrayOf_alike hZ.alike Ar_1.2.1) Ar_1.2.2 hin_1 hat_1 (g := (mkF m 16 #[.val (.ref d), .val (.int (95 : Int32)), .val (.int (0 : Int32)), .val (.int (8 : Int32)), .val (.int (95 : Int32)), .val (.int (0 : Int32))] [(.int (0 : Int32)), (.ref d)])) rfl rfl (hb hby d23_16) tG) ?_
  show Go p e below s _ _ _ s₁ (mkF m 17 #[.val (.ref d), .val (.int (95 : Int32)), .val (.int (0 : Int32)), .val (.int (8 : Int32)), .val (.int (95 : Int32)), .val (.int (0 : Int32))] [(.int (43 : Int32))])
  refine Go.st (fun _ => XS.iload X0.here hx rfl (hb hby d23_17) rfl) ?_
  show Go p e below s _ _ _ s₁ (mkF m 19 #[.val (.ref d), .val (.int (95 : Int32)), .val (.int (0 : Int32)), .val (.int (8 : Int32)), .val (.int (95 : Int32)), .val (.int (0 : Int32))] [(.int (95 : Int32)), (.int (43 : Int32))])
  refine Go.st (fun _ => XS.icmpYes X0.here hx rfl (pc0 := 19) (pc' := 25) rfl (hb hby d23_19) rfl (feq (by decide : ¬ ((43 : Int32) = (95 : Int32)))).2 (by decide) (by decide)) ?_
  show Go p e below s _ _ _ s₁ (mkF m 25 #[.val (.ref d), .val (.int (95 : Int32)), .val (.int (0 : Int32)), .val (.int (8 : Int32)), .val (.int (95 : Int32)), .val (.int (0 : Int32))] [])
  refine Go.st (fun _ => XS.iinc X0.here hx rfl (hb hby d23_25) rfl (l' := #[.val (.ref d), .val (.int (95 : Int32)), .val (.int (0 : Int32)), .val (.int (8 : Int32)), .val (.int (95 : Int32)), .val (.int ((0 : Int32) + (1 : Int32)))]) rfl) ?_
  show Go p e below s _ _ _ s₁ (mkF m 28 #[.val (.ref d), .val (.int (95 : Int32)), .val (.int (0 : Int32)), .val (.int (8 : Int32)), .val (.int (95 : Int32)), .val (.int ((0 : Int32) + (1 : Int32)))] [])
  rw [show ((0 : Int32) + (1 : Int32)) = (1 : Int32) from by decide]
  show Go p e below s _ _ _ s₁ (mkF m 28 #[.val (.ref d), .val (.int (95 : Int32)), .val (.int (0 : Int32)), .val (.int (8 : Int32)), .val (.int (95 : Int32)), .val (.int (1 : Int32))] [])
  refine Go.st (fun _ => XS.goto X0.here hx rfl (pc0 := 28) (pc' := 7) rfl (hb hby d23_28) (by decide) (by decide)) ?_
  show Go p e below s _ _ _ s₁ (mkF m 7 #[.val (.ref d), .val (.int (95 : Int32)), .val (.int (0 : Int32)), .val (.int (8 : Int32)), .val (.int (95 : Int32)), .val (.int (1 : Int32))] [])
  refine Go.st (fun _ => XS.iload X0.here hx rfl (hb hby d23_7) rfl) ?_
  show Go p e below s _ _ _ s₁ (mkF m 9 #[.val (.ref d), .val (.int (95 : Int32)), .val (.int (0 : Int32)), .val (.int (8 : Int32)), .val (.int (95 : Int32)), .val (.int (1 : Int32))] [(.int (1 : Int32))])
  refine Go.st (fun _ => XS.iloadN X0.here hx rfl (hb hby d23_9) rfl) ?_
  show Go p e below s _ _ _ s₁ (mkF m 10 #[.val (.ref d), .val (.int (95 : Int32)), .val (.int (0 : Int32)), .val (.int (8 : Int32)), .val (.int (95 : Int32)), .val (.int (1 : Int32))] [(.int (8 : Int32)), (.int (1 : Int32))])
  refine Go.st (fun _ => XS.icmpNo X0.here hx rfl (hb hby d23_10) rfl (tlt (by decide : (1 : Int32) < (8 : Int32))).2.1) ?_
  show Go p e below s _ _ _ s₁ (mkF m 13 #[.val (.ref d), .val (.int (95 : Int32)), .val (.int (0 : Int32)), .val (.int (8 : Int32)), .val (.int (95 : Int32)), .val (.int (1 : Int32))] [])
  refine Go.st (fun _ => XS.aloadN X0.here hx rfl (hb hby d23_13) rfl rfl) ?_
  show Go p e below s _ _ _ s₁ (mkF m 14 #[.val (.ref d), .val (.int (95 : Int32)), .val (.int (0 : Int32)), .val (.int (8 : Int32)), .val (.int (95 : Int32)), .val (.int (1 : Int32))] [(.ref d)])
  refine Go.st (fun _ => XS.iload X0.here hx rfl (hb hby d23_14) rfl) ?_
  show Go p e below s _ _ _ s₁ (mkF m 16 #[.val (.ref d), .val (.int (95 : Int32)), .val (.int (0 : Int32)), .val (.int (8 : Int32)), .val (.int (95 : Int32)), .val (.int (1 : Int32))] [(.int (1 : Int32)), (.ref d)])
  obtain ⟨cl_2, Ar_2, q_2, S_2, M_2, H_2, G_2⟩ := id V_d
  have hin_2 : ¬ ((1 : Int32) < 0 ∨ cl_2.slots.size ≤ ((1 : Int32)).toNatClampNeg) := inb_of S_2 ⟨by decide, by decide⟩
  have hat_2 : cl_2.slots[((1 : Int32)).toNatClampNeg]? = some (.int (47 : Int32)) := H_2.at hin_2 rfl
  refine Go.st (fun tG => X0.baloadBytes hx (j := (1 : Int32)) (v := (.int (47 : Int32))) (by rw [e0]; exact Ar_2.1) (State.isArrayOf_alike hZ.alike Ar_2.2.1) Ar_2.2.2 hin_2 hat_2 (g := (mkF m 16 #[.val (.ref d), .val (.int (95 : Int32)), .val (.int (0 : Int32)), .val (.int (8 : Int32)), .val (.int (95 : Int32)), .val (.int (1 : Int32))] [(.int (1 : Int32)), (.ref d)])) rfl rfl (hb hby d23_16) tG) ?_
  show Go p e below s _ _ _ s₁ (mkF m 17 #[.val (.ref d), .val (.int (95 : Int32)), .val (.int (0 : Int32)), .val (.int (8 : Int32)), .val (.int (95 : Int32)), .val (.int (1 : Int32))] [(.int (47 : Int32))])
  refine Go.st (fun _ => XS.iload X0.here hx rfl (hb hby d23_17) rfl) ?_
  show Go p e below s _ _ _ s₁ (mkF m 19 #[.val (.ref d), .val (.int (95 : Int32)), .val (.int (0 : Int32)), .val (.int (8 : Int32)), .val (.int (95 : Int32)), .val (.int (1 : Int32))] [(.int (95 : Int32)), (.int (47 : Int32))])
  refine Go.st (fun _ => XS.icmpYes X0.here hx rfl (pc0 := 19) (pc' := 25) rfl (hb hby d23_19) rfl (feq (by decide : ¬ ((47 : Int32) = (95 : Int32)))).2 (by decide) (by decide)) ?_
  show Go p e below s _ _ _ s₁ (mkF m 25 #[.val (.ref d), .val (.int (95 : Int32)), .val (.int (0 : Int32)), .val (.int (8 : Int32)), .val (.int (95 : Int32)), .val (.int (1 : Int32))] [])
  refine Go.st (fun _ => XS.iinc X0.here hx rfl (hb hby d23_25) rfl (l' := #[.val (.ref d), .val (.int (95 : Int32)), .val (.int (0 : Int32)), .val (.int (8 : Int32)), .val (.int (95 : Int32)), .val (.int ((1 : Int32) + (1 : Int32)))]) rfl) ?_
  show Go p e below s _ _ _ s₁ (mkF m 28 #[.val (.ref d), .val (.int (95 : Int32)), .val (.int (0 : Int32)), .val (.int (8 : Int32)), .val (.int (95 : Int32)), .val (.int ((1 : Int32) + (1 : Int32)))] [])
  rw [show ((1 : Int32) + (1 : Int32)) = (2 : Int32) from by decide]
  show Go p e below s _ _ _ s₁ (mkF m 28 #[.val (.ref d), .val (.int (95 : Int32)), .val (.int (0 : Int32)), .val (.int (8 : Int32)), .val (.int (95 : Int32)), .val (.int (2 : Int32))] [])
  refine Go.st (fun _ => XS.goto X0.here hx rfl (pc0 := 28) (pc' := 7) rfl (hb hby d23_28) (by decide) (by decide)) ?_
  show Go p e below s _ _ _ s₁ (mkF m 7 #[.val (.ref d), .val (.int (95 : Int32)), .val (.int (0 : Int32)), .val (.int (8 : Int32)), .val (.int (95 : Int32)), .val (.int (2 : Int32))] [])
  refine Go.st (fun _ => XS.iload X0.here hx rfl (hb hby d23_7) rfl) ?_
  show Go p e below s _ _ _ s₁ (mkF m 9 #[.val (.ref d), .val (.int (95 : Int32)), .val (.int (0 : Int32)), .val (.int (8 : Int32)), .val (.int (95 : Int32)), .val (.int (2 : Int32))] [(.int (2 : Int32))])
  refine Go.st (fun _ => XS.iloadN X0.here hx rfl (hb hby d23_9) rfl) ?_
  show Go p e below s _ _ _ s₁ (mkF m 10 #[.val (.ref d), .val (.int (95 : Int32)), .val (.int (0 : Int32)), .val (.int (8 : Int32)), .val (.int (95 : Int32)), .val (.int (2 : Int32))] [(.int (8 : Int32)), (.int (2 : Int32))])
  refine Go.st (fun _ => XS.icmpNo X0.here hx rfl (hb hby d23_10) rfl (tlt (by decide : (2 : Int32) < (8 : Int32))).2.1) ?_
  show Go p e below s _ _ _ s₁ (mkF m 13 #[.val (.ref d), .val (.int (95 : Int32)), .val (.int (0 : Int32)), .val (.int (8 : Int32)), .val (.int (95 : Int32)), .val (.int (2 : Int32))] [])
  refine Go.st (fun _ => XS.aloadN X0.here hx rfl (hb hby d23_13) rfl rfl) ?_
  show Go p e below s _ _ _ s₁ (mkF m 14 #[.val (.ref d), .val (.int (95 : Int32)), .val (.int (0 : Int32)), .val (.int (8 : Int32)), .val (.int (95 : Int32)), .val (.int (2 : Int32))] [(.ref d)])
  refine Go.st (fun _ => XS.iload X0.here hx rfl (hb hby d23_14) rfl) ?_
  show Go p e below s _ _ _ s₁ (mkF m 16 #[.val (.ref d), .val (.int (95 : Int32)), .val (.int (0 : Int32)), .val (.int (8 : Int32)), .val (.int (95 : Int32)), .val (.int (2 : Int32))] [(.int (2 : Int32)), (.ref d)])
  obtain ⟨cl_3, Ar_3, q_3, S_3, M_3, H_3, G_3⟩ := id V_d
  have hin_3 : ¬ ((2 : Int32) < 0 ∨ cl_3.slots.size ≤ ((2 : Int32)).toNatClampNeg) := inb_of S_3 ⟨by decide, by decide⟩
  have hat_3 : cl_3.slots[((2 : Int32)).toNatClampNeg]? = some (.int (61 : Int32)) := H_3.at hin_3 rfl
  refine Go.st (fun tG => X0.baloadBytes hx (j := (2 : Int32)) (v := (.int (61 : Int32))) (by rw [e0]; exact Ar_3.1) (State.isArrayOf_alike hZ.alike Ar_3.2.1) Ar_3.2.2 hin_3 hat_3 (g := (mkF m 16 #[.val (.ref d), .val (.int (95 : Int32)), .val (.int (0 : Int32)), .val (.int (8 : Int32)), .val (.int (95 : Int32)), .val (.int (2 : Int32))] [(.int (2 : Int32)), (.ref d)])) rfl rfl (hb hby d23_16) tG) ?_
  show Go p e below s _ _ _ s₁ (mkF m 17 #[.val (.ref d), .val (.int (95 : Int32)), .val (.int (0 : Int32)), .val (.int (8 : Int32)), .val (.int (95 : Int32)), .val (.int (2 : Int32))] [(.int (61 : Int32))])
  refine Go.st (fun _ => XS.iload X0.here hx rfl (hb hby d23_17) rfl) ?_
  show Go p e below s _ _ _ s₁ (mkF m 19 #[.val (.ref d), .val (.int (95 : Int32)), .val (.int (0 : Int32)), .val (.int (8 : Int32)), .val (.int (95 : Int32)), .val (.int (2 : Int32))] [(.int (95 : Int32)), (.int (61 : Int32))])
  refine Go.st (fun _ => XS.icmpYes X0.here hx rfl (pc0 := 19) (pc' := 25) rfl (hb hby d23_19) rfl (feq (by decide : ¬ ((61 : Int32) = (95 : Int32)))).2 (by decide) (by decide)) ?_
  show Go p e below s _ _ _ s₁ (mkF m 25 #[.val (.ref d), .val (.int (95 : Int32)), .val (.int (0 : Int32)), .val (.int (8 : Int32)), .val (.int (95 : Int32)), .val (.int (2 : Int32))] [])
  refine Go.st (fun _ => XS.iinc X0.here hx rfl (hb hby d23_25) rfl (l' := #[.val (.ref d), .val (.int (95 : Int32)), .val (.int (0 : Int32)), .val (.int (8 : Int32)), .val (.int (95 : Int32)), .val (.int ((2 : Int32) + (1 : Int32)))]) rfl) ?_
  show Go p e below s _ _ _ s₁ (mkF m 28 #[.val (.ref d), .val (.int (95 : Int32)), .val (.int (0 : Int32)), .val (.int (8 : Int32)), .val (.int (95 : Int32)), .val (.int ((2 : Int32) + (1 : Int32)))] [])
  rw [show ((2 : Int32) + (1 : Int32)) = (3 : Int32) from by decide]
  show Go p e below s _ _ _ s₁ (mkF m 28 #[.val (.ref d), .val (.int (95 : Int32)), .val (.int (0 : Int32)), .val (.int (8 : Int32)), .val (.int (95 : Int32)), .val (.int (3 : Int32))] [])
  refine Go.st (fun _ => XS.goto X0.here hx rfl (pc0 := 28) (pc' := 7) rfl (hb hby d23_28) (by decide) (by decide)) ?_
  show Go p e below s _ _ _ s₁ (mkF m 7 #[.val (.ref d), .val (.int (95 : Int32)), .val (.int (0 : Int32)), .val (.int (8 : Int32)), .val (.int (95 : Int32)), .val (.int (3 : Int32))] [])
  refine Go.st (fun _ => XS.iload X0.here hx rfl (hb hby d23_7) rfl) ?_
  show Go p e below s _ _ _ s₁ (mkF m 9 #[.val (.ref d), .val (.int (95 : Int32)), .val (.int (0 : Int32)), .val (.int (8 : Int32)), .val (.int (95 : Int32)), .val (.int (3 : Int32))] [(.int (3 : Int32))])
  refine Go.st (fun _ => XS.iloadN X0.here hx rfl (hb hby d23_9) rfl) ?_
  show Go p e below s _ _ _ s₁ (mkF m 10 #[.val (.ref d), .val (.int (95 : Int32)), .val (.int (0 : Int32)), .val (.int (8 : Int32)), .val (.int (95 : Int32)), .val (.int (3 : Int32))] [(.int (8 : Int32)), (.int (3 : Int32))])
  refine Go.st (fun _ => XS.icmpNo X0.here hx rfl (hb hby d23_10) rfl (tlt (by decide : (3 : Int32) < (8 : Int32))).2.1) ?_
  show Go p e below s _ _ _ s₁ (mkF m 13 #[.val (.ref d), .val (.int (95 : Int32)), .val (.int (0 : Int32)), .val (.int (8 : Int32)), .val (.int (95 : Int32)), .val (.int (3 : Int32))] [])
  refine Go.st (fun _ => XS.aloadN X0.here hx rfl (hb hby d23_13) rfl rfl) ?_
  show Go p e below s _ _ _ s₁ (mkF m 14 #[.val (.ref d), .val (.int (95 : Int32)), .val (.int (0 : Int32)), .val (.int (8 : Int32)), .val (.int (95 : Int32)), .val (.int (3 : Int32))] [(.ref d)])
  refine Go.st (fun _ => XS.iload X0.here hx rfl (hb hby d23_14) rfl) ?_
  show Go p e below s _ _ _ s₁ (mkF m 16 #[.val (.ref d), .val (.int (95 : Int32)), .val (.int (0 : Int32)), .val (.int (8 : Int32)), .val (.int (95 : Int32)), .val (.int (3 : Int32))] [(.int (3 : Int32)), (.ref d)])
  obtain ⟨cl_4, Ar_4, q_4, S_4, M_4, H_4, G_4⟩ := id V_d
  have hin_4 : ¬ ((3 : Int32) < 0 ∨ cl_4.slots.size ≤ ((3 : Int32)).toNatClampNeg) := inb_of S_4 ⟨by decide, by decide⟩
  have hat_4 : cl_4.slots[((3 : Int32)).toNatClampNeg]? = some (.int (45 : Int32)) := H_4.at hin_4 rfl
  refine Go.st (fun tG => X0.baloadBytes hx (j := (3 : Int32)) (v := (.int (45 : Int32))) (by rw [e0]; exact Ar_4.1) (State.isArrayOf_alike hZ.alike Ar_4.2.1) Ar_4.2.2 hin_4 hat_4 (g := (mkF m 16 #[.val (.ref d), .val (.int (95 : Int32)), .val (.int (0 : Int32)), .val (.int (8 : Int32)), .val (.int (95 : Int32)), .val (.int (3 : Int32))] [(.int (3 : Int32)), (.ref d)])) rfl rfl (hb hby d23_16) tG) ?_
  show Go p e below s _ _ _ s₁ (mkF m 17 #[.val (.ref d), .val (.int (95 : Int32)), .val (.int (0 : Int32)), .val (.int (8 : Int32)), .val (.int (95 : Int32)), .val (.int (3 : Int32))] [(.int (45 : Int32))])
  refine Go.st (fun _ => XS.iload X0.here hx rfl (hb hby d23_17) rfl) ?_
  show Go p e below s _ _ _ s₁ (mkF m 19 #[.val (.ref d), .val (.int (95 : Int32)), .val (.int (0 : Int32)), .val (.int (8 : Int32)), .val (.int (95 : Int32)), .val (.int (3 : Int32))] [(.int (95 : Int32)), (.int (45 : Int32))])
  refine Go.st (fun _ => XS.icmpYes X0.here hx rfl (pc0 := 19) (pc' := 25) rfl (hb hby d23_19) rfl (feq (by decide : ¬ ((45 : Int32) = (95 : Int32)))).2 (by decide) (by decide)) ?_
  show Go p e below s _ _ _ s₁ (mkF m 25 #[.val (.ref d), .val (.int (95 : Int32)), .val (.int (0 : Int32)), .val (.int (8 : Int32)), .val (.int (95 : Int32)), .val (.int (3 : Int32))] [])
  refine Go.st (fun _ => XS.iinc X0.here hx rfl (hb hby d23_25) rfl (l' := #[.val (.ref d), .val (.int (95 : Int32)), .val (.int (0 : Int32)), .val (.int (8 : Int32)), .val (.int (95 : Int32)), .val (.int ((3 : Int32) + (1 : Int32)))]) rfl) ?_
  show Go p e below s _ _ _ s₁ (mkF m 28 #[.val (.ref d), .val (.int (95 : Int32)), .val (.int (0 : Int32)), .val (.int (8 : Int32)), .val (.int (95 : Int32)), .val (.int ((3 : Int32) + (1 : Int32)))] [])
  rw [show ((3 : Int32) + (1 : Int32)) = (4 : Int32) from by decide]
  show Go p e below s _ _ _ s₁ (mkF m 28 #[.val (.ref d), .val (.int (95 : Int32)), .val (.int (0 : Int32)), .val (.int (8 : Int32)), .val (.int (95 : Int32)), .val (.int (4 : Int32))] [])
  refine Go.st (fun _ => XS.goto X0.here hx rfl (pc0 := 28) (pc' := 7) rfl (hb hby d23_28) (by decide) (by decide)) ?_
  show Go p e below s _ _ _ s₁ (mkF m 7 #[.val (.ref d), .val (.int (95 : Int32)), .val (.int (0 : Int32)), .val (.int (8 : Int32)), .val (.int (95 : Int32)), .val (.int (4 : Int32))] [])
  refine Go.st (fun _ => XS.iload X0.here hx rfl (hb hby d23_7) rfl) ?_
  show Go p e below s _ _ _ s₁ (mkF m 9 #[.val (.ref d), .val (.int (95 : Int32)), .val (.int (0 : Int32)), .val (.int (8 : Int32)), .val (.int (95 : Int32)), .val (.int (4 : Int32))] [(.int (4 : Int32))])
  refine Go.st (fun _ => XS.iloadN X0.here hx rfl (hb hby d23_9) rfl) ?_
  show Go p e below s _ _ _ s₁ (mkF m 10 #[.val (.ref d), .val (.int (95 : Int32)), .val (.int (0 : Int32)), .val (.int (8 : Int32)), .val (.int (95 : Int32)), .val (.int (4 : Int32))] [(.int (8 : Int32)), (.int (4 : Int32))])
  refine Go.st (fun _ => XS.icmpNo X0.here hx rfl (hb hby d23_10) rfl (tlt (by decide : (4 : Int32) < (8 : Int32))).2.1) ?_
  show Go p e below s _ _ _ s₁ (mkF m 13 #[.val (.ref d), .val (.int (95 : Int32)), .val (.int (0 : Int32)), .val (.int (8 : Int32)), .val (.int (95 : Int32)), .val (.int (4 : Int32))] [])
  refine Go.st (fun _ => XS.aloadN X0.here hx rfl (hb hby d23_13) rfl rfl) ?_
  show Go p e below s _ _ _ s₁ (mkF m 14 #[.val (.ref d), .val (.int (95 : Int32)), .val (.int (0 : Int32)), .val (.int (8 : Int32)), .val (.int (95 : Int32)), .val (.int (4 : Int32))] [(.ref d)])
  refine Go.st (fun _ => XS.iload X0.here hx rfl (hb hby d23_14) rfl) ?_
  show Go p e below s _ _ _ s₁ (mkF m 16 #[.val (.ref d), .val (.int (95 : Int32)), .val (.int (0 : Int32)), .val (.int (8 : Int32)), .val (.int (95 : Int32)), .val (.int (4 : Int32))] [(.int (4 : Int32)), (.ref d)])
  obtain ⟨cl_5, Ar_5, q_5, S_5, M_5, H_5, G_5⟩ := id V_d
  have hin_5 : ¬ ((4 : Int32) < 0 ∨ cl_5.slots.size ≤ ((4 : Int32)).toNatClampNeg) := inb_of S_5 ⟨by decide, by decide⟩
  have hat_5 : cl_5.slots[((4 : Int32)).toNatClampNeg]? = some (.int (124 : Int32)) := H_5.at hin_5 rfl
  refine Go.st (fun tG => X0.baloadBytes hx (j := (4 : Int32)) (v := (.int (124 : Int32))) (by rw [e0]; exact Ar_5.1) (State.isArrayOf_alike hZ.alike Ar_5.2.1) Ar_5.2.2 hin_5 hat_5 (g := (mkF m 16 #[.val (.ref d), .val (.int (95 : Int32)), .val (.int (0 : Int32)), .val (.int (8 : Int32)), .val (.int (95 : Int32)), .val (.int (4 : Int32))] [(.int (4 : Int32)), (.ref d)])) rfl rfl (hb hby d23_16) tG) ?_
  show Go p e below s _ _ _ s₁ (mkF m 17 #[.val (.ref d), .val (.int (95 : Int32)), .val (.int (0 : Int32)), .val (.int (8 : Int32)), .val (.int (95 : Int32)), .val (.int (4 : Int32))] [(.int (124 : Int32))])
  refine Go.st (fun _ => XS.iload X0.here hx rfl (hb hby d23_17) rfl) ?_
  show Go p e below s _ _ _ s₁ (mkF m 19 #[.val (.ref d), .val (.int (95 : Int32)), .val (.int (0 : Int32)), .val (.int (8 : Int32)), .val (.int (95 : Int32)), .val (.int (4 : Int32))] [(.int (95 : Int32)), (.int (124 : Int32))])
  refine Go.st (fun _ => XS.icmpYes X0.here hx rfl (pc0 := 19) (pc' := 25) rfl (hb hby d23_19) rfl (feq (by decide : ¬ ((124 : Int32) = (95 : Int32)))).2 (by decide) (by decide)) ?_
  show Go p e below s _ _ _ s₁ (mkF m 25 #[.val (.ref d), .val (.int (95 : Int32)), .val (.int (0 : Int32)), .val (.int (8 : Int32)), .val (.int (95 : Int32)), .val (.int (4 : Int32))] [])
  refine Go.st (fun _ => XS.iinc X0.here hx rfl (hb hby d23_25) rfl (l' := #[.val (.ref d), .val (.int (95 : Int32)), .val (.int (0 : Int32)), .val (.int (8 : Int32)), .val (.int (95 : Int32)), .val (.int ((4 : Int32) + (1 : Int32)))]) rfl) ?_
  show Go p e below s _ _ _ s₁ (mkF m 28 #[.val (.ref d), .val (.int (95 : Int32)), .val (.int (0 : Int32)), .val (.int (8 : Int32)), .val (.int (95 : Int32)), .val (.int ((4 : Int32) + (1 : Int32)))] [])
  rw [show ((4 : Int32) + (1 : Int32)) = (5 : Int32) from by decide]
  show Go p e below s _ _ _ s₁ (mkF m 28 #[.val (.ref d), .val (.int (95 : Int32)), .val (.int (0 : Int32)), .val (.int (8 : Int32)), .val (.int (95 : Int32)), .val (.int (5 : Int32))] [])
  refine Go.st (fun _ => XS.goto X0.here hx rfl (pc0 := 28) (pc' := 7) rfl (hb hby d23_28) (by decide) (by decide)) ?_
  show Go p e below s _ _ _ s₁ (mkF m 7 #[.val (.ref d), .val (.int (95 : Int32)), .val (.int (0 : Int32)), .val (.int (8 : Int32)), .val (.int (95 : Int32)), .val (.int (5 : Int32))] [])
  refine Go.st (fun _ => XS.iload X0.here hx rfl (hb hby d23_7) rfl) ?_
  show Go p e below s _ _ _ s₁ (mkF m 9 #[.val (.ref d), .val (.int (95 : Int32)), .val (.int (0 : Int32)), .val (.int (8 : Int32)), .val (.int (95 : Int32)), .val (.int (5 : Int32))] [(.int (5 : Int32))])
  refine Go.st (fun _ => XS.iloadN X0.here hx rfl (hb hby d23_9) rfl) ?_
  show Go p e below s _ _ _ s₁ (mkF m 10 #[.val (.ref d), .val (.int (95 : Int32)), .val (.int (0 : Int32)), .val (.int (8 : Int32)), .val (.int (95 : Int32)), .val (.int (5 : Int32))] [(.int (8 : Int32)), (.int (5 : Int32))])
  refine Go.st (fun _ => XS.icmpNo X0.here hx rfl (hb hby d23_10) rfl (tlt (by decide : (5 : Int32) < (8 : Int32))).2.1) ?_
  show Go p e below s _ _ _ s₁ (mkF m 13 #[.val (.ref d), .val (.int (95 : Int32)), .val (.int (0 : Int32)), .val (.int (8 : Int32)), .val (.int (95 : Int32)), .val (.int (5 : Int32))] [])
  refine Go.st (fun _ => XS.aloadN X0.here hx rfl (hb hby d23_13) rfl rfl) ?_
  show Go p e below s _ _ _ s₁ (mkF m 14 #[.val (.ref d), .val (.int (95 : Int32)), .val (.int (0 : Int32)), .val (.int (8 : Int32)), .val (.int (95 : Int32)), .val (.int (5 : Int32))] [(.ref d)])
  refine Go.st (fun _ => XS.iload X0.here hx rfl (hb hby d23_14) rfl) ?_
  show Go p e below s _ _ _ s₁ (mkF m 16 #[.val (.ref d), .val (.int (95 : Int32)), .val (.int (0 : Int32)), .val (.int (8 : Int32)), .val (.int (95 : Int32)), .val (.int (5 : Int32))] [(.int (5 : Int32)), (.ref d)])
  obtain ⟨cl_6, Ar_6, q_6, S_6, M_6, H_6, G_6⟩ := id V_d
  have hin_6 : ¬ ((5 : Int32) < 0 ∨ cl_6.slots.size ≤ ((5 : Int32)).toNatClampNeg) := inb_of S_6 ⟨by decide, by decide⟩
  have hat_6 : cl_6.slots[((5 : Int32)).toNatClampNeg]? = some (.int (46 : Int32)) := H_6.at hin_6 rfl
  refine Go.st (fun tG => X0.baloadBytes hx (j := (5 : Int32)) (v := (.int (46 : Int32))) (by rw [e0]; exact Ar_6.1) (State.isArrayOf_alike hZ.alike Ar_6.2.1) Ar_6.2.2 hin_6 hat_6 (g := (mkF m 16 #[.val (.ref d), .val (.int (95 : Int32)), .val (.int (0 : Int32)), .val (.int (8 : Int32)), .val (.int (95 : Int32)), .val (.int (5 : Int32))] [(.int (5 : Int32)), (.ref d)])) rfl rfl (hb hby d23_16) tG) ?_
  show Go p e below s _ _ _ s₁ (mkF m 17 #[.val (.ref d), .val (.int (95 : Int32)), .val (.int (0 : Int32)), .val (.int (8 : Int32)), .val (.int (95 : Int32)), .val (.int (5 : Int32))] [(.int (46 : Int32))])
  refine Go.st (fun _ => XS.iload X0.here hx rfl (hb hby d23_17) rfl) ?_
  show Go p e below s _ _ _ s₁ (mkF m 19 #[.val (.ref d), .val (.int (95 : Int32)), .val (.int (0 : Int32)), .val (.int (8 : Int32)), .val (.int (95 : Int32)), .val (.int (5 : Int32))] [(.int (95 : Int32)), (.int (46 : Int32))])
  refine Go.st (fun _ => XS.icmpYes X0.here hx rfl (pc0 := 19) (pc' := 25) rfl (hb hby d23_19) rfl (feq (by decide : ¬ ((46 : Int32) = (95 : Int32)))).2 (by decide) (by decide)) ?_
  show Go p e below s _ _ _ s₁ (mkF m 25 #[.val (.ref d), .val (.int (95 : Int32)), .val (.int (0 : Int32)), .val (.int (8 : Int32)), .val (.int (95 : Int32)), .val (.int (5 : Int32))] [])
  refine Go.st (fun _ => XS.iinc X0.here hx rfl (hb hby d23_25) rfl (l' := #[.val (.ref d), .val (.int (95 : Int32)), .val (.int (0 : Int32)), .val (.int (8 : Int32)), .val (.int (95 : Int32)), .val (.int ((5 : Int32) + (1 : Int32)))]) rfl) ?_
  show Go p e below s _ _ _ s₁ (mkF m 28 #[.val (.ref d), .val (.int (95 : Int32)), .val (.int (0 : Int32)), .val (.int (8 : Int32)), .val (.int (95 : Int32)), .val (.int ((5 : Int32) + (1 : Int32)))] [])
  rw [show ((5 : Int32) + (1 : Int32)) = (6 : Int32) from by decide]
  show Go p e below s _ _ _ s₁ (mkF m 28 #[.val (.ref d), .val (.int (95 : Int32)), .val (.int (0 : Int32)), .val (.int (8 : Int32)), .val (.int (95 : Int32)), .val (.int (6 : Int32))] [])
  refine Go.st (fun _ => XS.goto X0.here hx rfl (pc0 := 28) (pc' := 7) rfl (hb hby d23_28) (by decide) (by decide)) ?_
  show Go p e below s _ _ _ s₁ (mkF m 7 #[.val (.ref d), .val (.int (95 : Int32)), .val (.int (0 : Int32)), .val (.int (8 : Int32)), .val (.int (95 : Int32)), .val (.int (6 : Int32))] [])
  refine Go.st (fun _ => XS.iload X0.here hx rfl (hb hby d23_7) rfl) ?_
  show Go p e below s _ _ _ s₁ (mkF m 9 #[.val (.ref d), .val (.int (95 : Int32)), .val (.int (0 : Int32)), .val (.int (8 : Int32)), .val (.int (95 : Int32)), .val (.int (6 : Int32))] [(.int (6 : Int32))])
  refine Go.st (fun _ => XS.iloadN X0.here hx rfl (hb hby d23_9) rfl) ?_
  show Go p e below s _ _ _ s₁ (mkF m 10 #[.val (.ref d), .val (.int (95 : Int32)), .val (.int (0 : Int32)), .val (.int (8 : Int32)), .val (.int (95 : Int32)), .val (.int (6 : Int32))] [(.int (8 : Int32)), (.int (6 : Int32))])
  refine Go.st (fun _ => XS.icmpNo X0.here hx rfl (hb hby d23_10) rfl (tlt (by decide : (6 : Int32) < (8 : Int32))).2.1) ?_
  show Go p e below s _ _ _ s₁ (mkF m 13 #[.val (.ref d), .val (.int (95 : Int32)), .val (.int (0 : Int32)), .val (.int (8 : Int32)), .val (.int (95 : Int32)), .val (.int (6 : Int32))] [])
  refine Go.st (fun _ => XS.aloadN X0.here hx rfl (hb hby d23_13) rfl rfl) ?_
  show Go p e below s _ _ _ s₁ (mkF m 14 #[.val (.ref d), .val (.int (95 : Int32)), .val (.int (0 : Int32)), .val (.int (8 : Int32)), .val (.int (95 : Int32)), .val (.int (6 : Int32))] [(.ref d)])
  refine Go.st (fun _ => XS.iload X0.here hx rfl (hb hby d23_14) rfl) ?_
  show Go p e below s _ _ _ s₁ (mkF m 16 #[.val (.ref d), .val (.int (95 : Int32)), .val (.int (0 : Int32)), .val (.int (8 : Int32)), .val (.int (95 : Int32)), .val (.int (6 : Int32))] [(.int (6 : Int32)), (.ref d)])
  obtain ⟨cl_7, Ar_7, q_7, S_7, M_7, H_7, G_7⟩ := id V_d
  have hin_7 : ¬ ((6 : Int32) < 0 ∨ cl_7.slots.size ≤ ((6 : Int32)).toNatClampNeg) := inb_of S_7 ⟨by decide, by decide⟩
  have hat_7 : cl_7.slots[((6 : Int32)).toNatClampNeg]? = some (.int (95 : Int32)) := H_7.at hin_7 rfl
  refine Go.st (fun tG => X0.baloadBytes hx (j := (6 : Int32)) (v := (.int (95 : Int32))) (by rw [e0]; exact Ar_7.1) (State.isArrayOf_alike hZ.alike Ar_7.2.1) Ar_7.2.2 hin_7 hat_7 (g := (mkF m 16 #[.val (.ref d), .val (.int (95 : Int32)), .val (.int (0 : Int32)), .val (.int (8 : Int32)), .val (.int (95 : Int32)), .val (.int (6 : Int32))] [(.int (6 : Int32)), (.ref d)])) rfl rfl (hb hby d23_16) tG) ?_
  show Go p e below s _ _ _ s₁ (mkF m 17 #[.val (.ref d), .val (.int (95 : Int32)), .val (.int (0 : Int32)), .val (.int (8 : Int32)), .val (.int (95 : Int32)), .val (.int (6 : Int32))] [(.int (95 : Int32))])
  refine Go.st (fun _ => XS.iload X0.here hx rfl (hb hby d23_17) rfl) ?_
  show Go p e below s _ _ _ s₁ (mkF m 19 #[.val (.ref d), .val (.int (95 : Int32)), .val (.int (0 : Int32)), .val (.int (8 : Int32)), .val (.int (95 : Int32)), .val (.int (6 : Int32))] [(.int (95 : Int32)), (.int (95 : Int32))])
  refine Go.st (fun _ => XS.icmpNo X0.here hx rfl (hb hby d23_19) rfl (teq (by decide : (95 : Int32) = (95 : Int32))).2) ?_
  show Go p e below s _ _ _ s₁ (mkF m 22 #[.val (.ref d), .val (.int (95 : Int32)), .val (.int (0 : Int32)), .val (.int (8 : Int32)), .val (.int (95 : Int32)), .val (.int (6 : Int32))] [])
  refine Go.st (fun _ => XS.iload X0.here hx rfl (hb hby d23_22) rfl) ?_
  show Go p e below s _ _ _ s₁ (mkF m 24 #[.val (.ref d), .val (.int (95 : Int32)), .val (.int (0 : Int32)), .val (.int (8 : Int32)), .val (.int (95 : Int32)), .val (.int (6 : Int32))] [(.int (6 : Int32))])
  exact Go.retI X0 hx hlk Bd.returns (hb hby d23_24) (by rw [e0]; exact ⟨rfl, N0, rfl⟩) (by decide) (by decide)
theorem ef_rmIf95 (m : MethodId) (d : Addr) : entryFrame m #[(.ref d), (.int (95 : Int32)), (.int (0 : Int32)), (.int (8 : Int32))] 4 = mkF m 0 #[.val (.ref d), .val (.int (95 : Int32)), .val (.int (0 : Int32)), .val (.int (8 : Int32))] [] := by first | (simp [entryFrame, mkF, argsToLocals, Value.category]; done) | rfl
def QrmIf95 (Z : State) (d : Addr) (kd : ClassId) (h0 : Heap) (n0 : Nat) (rV : Option Value) (hE : Heap) (LE : List Loc) : Prop := rV = some (.int (6 : Int32)) ∧ Fr n0 LE ∧ hE = h0
set_option maxRecDepth 65536 in
set_option maxHeartbeats 40000000 in
theorem rmIf95 (l : Launch) (Z : State) (a0 : Array Value) (hw : ∀ d ∈ tables_1, d.before a0 Z = true) (ws : List Jvm.Cond) (d : Addr) (kd : ClassId) (h0 : Heap) (n0 : Nat) (Z0 : n0 ≤ h0.size) (V_d : Arv Z h0 d kd .byte (8 : Int32) [(.int (43 : Int32)), (.int (47 : Int32)), (.int (61 : Int32)), (.int (45 : Int32)), (.int (124 : Int32)), (.int (46 : Int32)), (.int (95 : Int32)), (.int (35 : Int32))] (.int (0 : Int32))) :
    MetFree l (⟨"java/lang/StringLatin1", "indexOf", "([BIII)I"⟩ : MethodName) (head1 (Jvm.Cond.code (⟨"java/lang/StringLatin1", "indexOf", "([BIII)I"⟩ : MethodName) jdk_43_method_22_code 4 (some .int) :: ws) ({ frames := 1, cells := 0, slots := 0, locals := 17 } : Room)) (fun aA UA => aA = #[(.ref d), (.int (95 : Int32)), (.int (0 : Int32)), (.int (8 : Int32))] ∧ Z.Warmed39 UA.vm ∧ UA.heap = h0) (fun _ _ _ _ _ => True) (fun _ UA oA UB => ∃ rV LE, oA = .returned rV ∧ QrmIf95 Z d kd h0 n0 rV UB.heap LE ∧ FrameEnd UA oA UB LE ({ frames := 1, cells := 0, slots := 0, locals := 17 } : Room).cells ({ frames := 1, cells := 0, slots := 0, locals := 17 } : Room).slots) := by
  refine MetFree.of_bodySF (plainFor_of_name pn_0) hisR ?_
  intro p e s m args below meth c s₁ Bd hml0 hP hK
  obtain ⟨rfl, hZ, hh⟩ := hP
  have hx := Bd.exec
  have hby := Bd.bytes
  have hml : c.maxLocals = 4 := hml0
  have hown : s.vm.findClass "java/lang/StringLatin1" = some m.cls := findClass_of_methodNamed Bd.named
  have hnm := (name_of_methodNamed Bd.named Bd.method).1
  have hlk := Bd.notSynchronized
  have X0 : Stand p l e ({ frames := 1, cells := 0, slots := 0, locals := 17 } : Room) s m #[(.ref d), (.int (95 : Int32)), (.int (0 : Int32)), (.int (8 : Int32))] below meth c s₁ [] 0 0 := Stand.of_body Bd
  have e0 : s₁.heap = h0 := by rw [← hh, Bd.state]; rfl
  have N0 := Fr.nil n0
  show Go p e below s (QrmIf95 Z d kd h0 n0) ({ frames := 1, cells := 0, slots := 0, locals := 17 } : Room).cells ({ frames := 1, cells := 0, slots := 0, locals := 17 } : Room).slots s₁ (entryFrame m #[(.ref d), (.int (95 : Int32)), (.int (0 : Int32)), (.int (8 : Int32))] 4)
  refine Go.eq (ef_rmIf95 m d) ?_
  show Go p e below s _ _ _ s₁ (mkF m 0 #[.val (.ref d), .val (.int (95 : Int32)), .val (.int (0 : Int32)), .val (.int (8 : Int32))] [])
  refine Go.st (fun _ => XS.iloadN X0.here hx rfl (hb hby d19_0) rfl) ?_
  show Go p e below s _ _ _ s₁ (mkF m 1 #[.val (.ref d), .val (.int (95 : Int32)), .val (.int (0 : Int32)), .val (.int (8 : Int32))] [(.int (95 : Int32))])
  obtain ⟨_, _, ⟨T_1, L_1, kc_1, nc_1⟩, -, X_1, ⟨Lc_1, hQ_1, l_1, y_1, z_1⟩, st_1⟩ := Jvm.LawKit.callS X0 hx (y := (⟨"java/lang/StringLatin1", "canEncode", "(I)Z"⟩ : MethodName)) hown (mvT hZ (hw _ (List.mem_of_getElem? (i := 91) rfl))) (mvT hZ (hw _ (List.mem_of_getElem? (i := 92) rfl))) (mvT hZ (hw _ (List.mem_of_getElem? (i := 13) rfl))) (mvT hZ (hw _ (List.mem_of_getElem? (i := 93) rfl))) (by decide) (backOf (W := 0) (rmCe95 l Z a0 hw []  h0 n0 Z0 ) hZ (hw _ (List.mem_of_getElem? (i := 93) rfl)) (hw _ (List.mem_of_getElem? (i := 13) rfl)) (by decide) (by decide)) (g := (mkF m 1 #[.val (.ref d), .val (.int (95 : Int32)), .val (.int (0 : Int32)), .val (.int (8 : Int32))] [(.int (95 : Int32))])) rfl (by rw [hml]; rfl) (argsL := [(.int (95 : Int32))]) (rest := []) (lenOf pd_7 rfl) rfl (by show 2 * 0 + _ ≤ _; exact Nat.le_of_eq rfl) (hb hby d19_1) (fun _ _ => ⟨rfl, e0, (by decide : 0 + 0 ≤ _), (by decide : 0 + 0 ≤ _)⟩)
  dsimp only [Pt.U, Pt.locs, Pt.cells, Pt.slots] at X_1 l_1 y_1 z_1 st_1 hQ_1
  obtain rfl : kc_1 = 0 := y_1
  obtain rfl : nc_1 = 0 := z_1
  obtain ⟨h_1, e_1⟩ : ∃ hh, T_1.heap = hh := ⟨_, rfl⟩
  rw [e_1] at hQ_1
  obtain ⟨rfl, N_1q, sm_1⟩ := hQ_1
  have N_1 : Fr n0 L_1 := by rw [l_1]; exact Fr.app N0 N_1q
  refine Go.st st_1 ?_
  rw [sm_1] at e_1
  show Go p e below s _ _ _ T_1 (mkF m 4 #[.val (.ref d), .val (.int (95 : Int32)), .val (.int (0 : Int32)), .val (.int (8 : Int32))] [(.int (1 : Int32))])
  refine Go.st (fun _ => XS.ifYes X_1.here hx rfl (pc0 := 4) (pc' := 9) rfl (hb hby d19_4) rfl ((if0 _ _).trans (feq (by decide : ¬ ((1 : Int32) = (0 : Int32)))).2) (by decide) (by decide)) ?_
  show Go p e below s _ _ _ T_1 (mkF m 9 #[.val (.ref d), .val (.int (95 : Int32)), .val (.int (0 : Int32)), .val (.int (8 : Int32))] [])
  refine Go.st (fun _ => XS.iloadN X_1.here hx rfl (hb hby d19_9) rfl) ?_
  show Go p e below s _ _ _ T_1 (mkF m 10 #[.val (.ref d), .val (.int (95 : Int32)), .val (.int (0 : Int32)), .val (.int (8 : Int32))] [(.int (0 : Int32))])
  refine Go.st (fun _ => XS.iconst X_1.here hx rfl (hb hby d19_10)) ?_
  show Go p e below s _ _ _ T_1 (mkF m 11 #[.val (.ref d), .val (.int (95 : Int32)), .val (.int (0 : Int32)), .val (.int (8 : Int32))] [(.int (0 : Int32)), (.int (0 : Int32))])
  obtain ⟨_, _, ⟨T_2, L_2, kc_2, nc_2⟩, -, X_2, ⟨Lc_2, hQ_2, l_2, y_2, z_2⟩, st_2⟩ := Jvm.LawKit.callS X_1 hx (y := (⟨"java/lang/Math", "max", "(II)I"⟩ : MethodName)) hown (mvT hZ (hw _ (List.mem_of_getElem? (i := 94) rfl))) (mvT hZ (hw _ (List.mem_of_getElem? (i := 95) rfl))) (mvT hZ (hw _ (List.mem_of_getElem? (i := 96) rfl))) (mvT hZ (hw _ (List.mem_of_getElem? (i := 97) rfl))) (by decide) (backOf (W := 0) (rmMax l Z a0 hw []  h0 n0 Z0 ) hZ (hw _ (List.mem_of_getElem? (i := 97) rfl)) (hw _ (List.mem_of_getElem? (i := 96) rfl)) (by decide) (by decide)) (g := (mkF m 11 #[.val (.ref d), .val (.int (95 : Int32)), .val (.int (0 : Int32)), .val (.int (8 : Int32))] [(.int (0 : Int32)), (.int (0 : Int32))])) rfl (by rw [hml]; rfl) (argsL := [(.int (0 : Int32)), (.int (0 : Int32))]) (rest := []) (lenOf pd_8 rfl) rfl (by show 2 * 0 + _ ≤ _; exact Nat.le_of_eq rfl) (hb hby d19_11) (fun _ _ => ⟨rfl, e_1, (by decide : 0 + 0 ≤ _), (by decide : 0 + 0 ≤ _)⟩)
  dsimp only [Pt.U, Pt.locs, Pt.cells, Pt.slots] at X_2 l_2 y_2 z_2 st_2 hQ_2
  obtain rfl : kc_2 = 0 := y_2
  obtain rfl : nc_2 = 0 := z_2
  obtain ⟨h_2, e_2⟩ : ∃ hh, T_2.heap = hh := ⟨_, rfl⟩
  rw [e_2] at hQ_2
  obtain ⟨rfl, N_2q, sm_2⟩ := hQ_2
  have N_2 : Fr n0 L_2 := by rw [l_2]; exact Fr.app N_1 N_2q
  refine Go.st st_2 ?_
  rw [sm_2] at e_2
  show Go p e below s _ _ _ T_2 (mkF m 14 #[.val (.ref d), .val (.int (95 : Int32)), .val (.int (0 : Int32)), .val (.int (8 : Int32))] [(.int (0 : Int32))])
  refine Go.st (fun _ => XS.istoreN X_2.here hx rfl (hb hby d19_14) rfl (l' := #[.val (.ref d), .val (.int (95 : Int32)), .val (.int (0 : Int32)), .val (.int (8 : Int32))]) rfl) ?_
  show Go p e below s _ _ _ T_2 (mkF m 15 #[.val (.ref d), .val (.int (95 : Int32)), .val (.int (0 : Int32)), .val (.int (8 : Int32))] [])
  refine Go.st (fun _ => XS.iloadN X_2.here hx rfl (hb hby d19_15) rfl) ?_
  show Go p e below s _ _ _ T_2 (mkF m 16 #[.val (.ref d), .val (.int (95 : Int32)), .val (.int (0 : Int32)), .val (.int (8 : Int32))] [(.int (8 : Int32))])
  refine Go.st (fun _ => XS.aloadN X_2.here hx rfl (hb hby d19_16) rfl rfl) ?_
  show Go p e below s _ _ _ T_2 (mkF m 17 #[.val (.ref d), .val (.int (95 : Int32)), .val (.int (0 : Int32)), .val (.int (8 : Int32))] [(.ref d), (.int (8 : Int32))])
  obtain ⟨cl_3, Ar_3, q_3, S_3, M_3, H_3, G_3⟩ := id V_d
  refine Go.st (fun tG => X_2.arraylength hx (by rw [e_2]; exact Ar_3.1) (State.isArrayOf_alike hZ.alike Ar_3.2.1) (g := (mkF m 17 #[.val (.ref d), .val (.int (95 : Int32)), .val (.int (0 : Int32)), .val (.int (8 : Int32))] [(.ref d), (.int (8 : Int32))])) rfl rfl (hb hby d19_17) tG) ?_
  rw [len_of S_3 M_3]
  show Go p e below s _ _ _ T_2 (mkF m 18 #[.val (.ref d), .val (.int (95 : Int32)), .val (.int (0 : Int32)), .val (.int (8 : Int32))] [(.int (8 : Int32)), (.int (8 : Int32))])
  obtain ⟨_, _, ⟨T_4, L_4, kc_4, nc_4⟩, -, X_4, ⟨Lc_4, hQ_4, l_4, y_4, z_4⟩, st_4⟩ := Jvm.LawKit.callS X_2 hx (y := (⟨"java/lang/Math", "min", "(II)I"⟩ : MethodName)) hown (mvT hZ (hw _ (List.mem_of_getElem? (i := 98) rfl))) (mvT hZ (hw _ (List.mem_of_getElem? (i := 99) rfl))) (mvT hZ (hw _ (List.mem_of_getElem? (i := 96) rfl))) (mvT hZ (hw _ (List.mem_of_getElem? (i := 100) rfl))) (by decide) (backOf (W := 0) (rmMin l Z a0 hw []  h0 n0 Z0 ) hZ (hw _ (List.mem_of_getElem? (i := 100) rfl)) (hw _ (List.mem_of_getElem? (i := 96) rfl)) (by decide) (by decide)) (g := (mkF m 18 #[.val (.ref d), .val (.int (95 : Int32)), .val (.int (0 : Int32)), .val (.int (8 : Int32))] [(.int (8 : Int32)), (.int (8 : Int32))])) rfl (by rw [hml]; rfl) (argsL := [(.int (8 : Int32)), (.int (8 : Int32))]) (rest := []) (lenOf pd_8 rfl) rfl (by show 2 * 0 + _ ≤ _; exact Nat.le_of_eq rfl) (hb hby d19_18) (fun _ _ => ⟨rfl, e_2, (by decide : 0 + 0 ≤ _), (by decide : 0 + 0 ≤ _)⟩)
  dsimp only [Pt.U, Pt.locs, Pt.cells, Pt.slots] at X_4 l_4 y_4 z_4 st_4 hQ_4
  obtain rfl : kc_4 = 0 := y_4
  obtain rfl : nc_4 = 0 := z_4
  obtain ⟨h_4, e_4⟩ : ∃ hh, T_4.heap = hh := ⟨_, rfl⟩
  rw [e_4] at hQ_4
  obtain ⟨rfl, N_4q, sm_4⟩ := hQ_4
  have N_4 : Fr n0 L_4 := by rw [l_4]; exact Fr.app N_2 N_4q
  refine Go.st st_4 ?_
  rw [sm_4] at e_4
  show Go p e below s _ _ _ T_4 (mkF m 21 #[.val (.ref d), .val (.int (95 : Int32)), .val (.int (0 : Int32)), .val (.int (8 : Int32))] [(.int (8 : Int32))])
  refine Go.st (fun _ => XS.istoreN X_4.here hx rfl (hb hby d19_21) rfl (l' := #[.val (.ref d), .val (.int (95 : Int32)), .val (.int (0 : Int32)), .val (.int (8 : Int32))]) rfl) ?_
  show Go p e below s _ _ _ T_4 (mkF m 22 #[.val (.ref d), .val (.int (95 : Int32)), .val (.int (0 : Int32)), .val (.int (8 : Int32))] [])
  refine Go.st (fun _ => XS.iloadN X_4.here hx rfl (hb hby d19_22) rfl) ?_
  show Go p e below s _ _ _ T_4 (mkF m 23 #[.val (.ref d), .val (.int (95 : Int32)), .val (.int (0 : Int32)), .val (.int (8 : Int32))] [(.int (0 : Int32))])
  refine Go.st (fun _ => XS.iloadN X_4.here hx rfl (hb hby d19_23) rfl) ?_
  show Go p e below s _ _ _ T_4 (mkF m 24 #[.val (.ref d), .val (.int (95 : Int32)), .val (.int (0 : Int32)), .val (.int (8 : Int32))] [(.int (8 : Int32)), (.int (0 : Int32))])
  refine Go.st (fun _ => XS.icmpYes X_4.here hx rfl (pc0 := 24) (pc' := 29) rfl (hb hby d19_24) rfl (tlt (by decide : (0 : Int32) < (8 : Int32))).1 (by decide) (by decide)) ?_
  show Go p e below s _ _ _ T_4 (mkF m 29 #[.val (.ref d), .val (.int (95 : Int32)), .val (.int (0 : Int32)), .val (.int (8 : Int32))] [])
  refine Go.st (fun _ => XS.aloadN X_4.here hx rfl (hb hby d19_29) rfl rfl) ?_
  show Go p e below s _ _ _ T_4 (mkF m 30 #[.val (.ref d), .val (.int (95 : Int32)), .val (.int (0 : Int32)), .val (.int (8 : Int32))] [(.ref d)])
  refine Go.st (fun _ => XS.iloadN X_4.here hx rfl (hb hby d19_30) rfl) ?_
  show Go p e below s _ _ _ T_4 (mkF m 31 #[.val (.ref d), .val (.int (95 : Int32)), .val (.int (0 : Int32)), .val (.int (8 : Int32))] [(.int (95 : Int32)), (.ref d)])
  refine Go.st (fun _ => XS.iloadN X_4.here hx rfl (hb hby d19_31) rfl) ?_
  show Go p e below s _ _ _ T_4 (mkF m 32 #[.val (.ref d), .val (.int (95 : Int32)), .val (.int (0 : Int32)), .val (.int (8 : Int32))] [(.int (0 : Int32)), (.int (95 : Int32)), (.ref d)])
  refine Go.st (fun _ => XS.iloadN X_4.here hx rfl (hb hby d19_32) rfl) ?_
  show Go p e below s _ _ _ T_4 (mkF m 33 #[.val (.ref d), .val (.int (95 : Int32)), .val (.int (0 : Int32)), .val (.int (8 : Int32))] [(.int (8 : Int32)), (.int (0 : Int32)), (.int (95 : Int32)), (.ref d)])
  obtain ⟨_, _, ⟨T_5, L_5, kc_5, nc_5⟩, -, X_5, ⟨Lc_5, hQ_5, l_5, y_5, z_5⟩, st_5⟩ := Jvm.LawKit.callS X_4 hx (y := (⟨"java/lang/StringLatin1", "indexOfChar", "([BIII)I"⟩ : MethodName)) hown (mvT hZ (hw _ (List.mem_of_getElem? (i := 101) rfl))) (mvT hZ (hw _ (List.mem_of_getElem? (i := 102) rfl))) (mvT hZ (hw _ (List.mem_of_getElem? (i := 13) rfl))) (mvT hZ (hw _ (List.mem_of_getElem? (i := 103) rfl))) (by decide) (backOf (W := 0) (rmIc95 l Z a0 hw [] d kd h0 n0 Z0 V_d) hZ (hw _ (List.mem_of_getElem? (i := 103) rfl)) (hw _ (List.mem_of_getElem? (i := 13) rfl)) (by decide) (by decide)) (g := (mkF m 33 #[.val (.ref d), .val (.int (95 : Int32)), .val (.int (0 : Int32)), .val (.int (8 : Int32))] [(.int (8 : Int32)), (.int (0 : Int32)), (.int (95 : Int32)), (.ref d)])) rfl (by rw [hml]; rfl) (argsL := [(.ref d), (.int (95 : Int32)), (.int (0 : Int32)), (.int (8 : Int32))]) (rest := []) (lenOf pd_9 rfl) rfl (by show 2 * 0 + _ ≤ _; exact Nat.le_of_eq rfl) (hb hby d19_33) (fun _ _ => ⟨rfl, e_4, (by decide : 0 + 0 ≤ _), (by decide : 0 + 0 ≤ _)⟩)
  dsimp only [Pt.U, Pt.locs, Pt.cells, Pt.slots] at X_5 l_5 y_5 z_5 st_5 hQ_5
  obtain rfl : kc_5 = 0 := y_5
  obtain rfl : nc_5 = 0 := z_5
  obtain ⟨h_5, e_5⟩ : ∃ hh, T_5.heap = hh := ⟨_, rfl⟩
  rw [e_5] at hQ_5
  obtain ⟨rfl, N_5q, sm_5⟩ := hQ_5
  have N_5 : Fr n0 L_5 := by rw [l_5]; exact Fr.app N_4 N_5q
  refine Go.st st_5 ?_
  rw [sm_5] at e_5
  show Go p e below s _ _ _ T_5 (mkF m 36 #[.val (.ref d), .val (.int (95 : Int32)), .val (.int (0 : Int32)), .val (.int (8 : Int32))] [(.int (6 : Int32))])
  exact Go.retI X_5 hx hlk Bd.returns (hb hby d19_36) (by rw [e_5]; exact ⟨rfl, N_5, rfl⟩) (by decide) (by decide)
theorem ef_rmIi95 (m : MethodId) (a : Addr) : entryFrame m #[(.ref a), (.int (95 : Int32)), (.int (0 : Int32))] 3 = mkF m 0 #[.val (.ref a), .val (.int (95 : Int32)), .val (.int (0 : Int32))] [] := by first | (simp [entryFrame, mkF, argsToLocals, Value.category]; done) | rfl
def QrmIi95 (Z : State) (a : Addr) (cs : Int32) (d : Addr) (kd : ClassId) (h0 : Heap) (n0 : Nat) (rV : Option Value) (hE : Heap) (LE : List Loc) : Prop := rV = some (.int (6 : Int32)) ∧ Fr n0 LE ∧ hE = h0
set_option maxRecDepth 65536 in
set_option maxHeartbeats 40000000 in
theorem rmIi95 (l : Launch) (Z : State) (a0 : Array Value) (hw : ∀ d ∈ tables_1, d.before a0 Z = true) (ws : List Jvm.Cond) (a : Addr) (cs : Int32) (d : Addr) (kd : ClassId) (h0 : Heap) (n0 : Nat) (Z0 : n0 ≤ h0.size) (S_COMPACT_STRINGS : Sta Z h0 "java/lang/String" "COMPACT_STRINGS" "Z" (.int cs)) (hcs : ¬ (cs = (0 : Int32))) (E_a : Exa Z h0 a "java/lang/String") (F_coder_a : Fld Z h0 a "java/lang/String" "coder" "B" (.int (0 : Int32))) (F_value_a : Fld Z h0 a "java/lang/String" "value" "[B" (.ref d)) (V_d : Arv Z h0 d kd .byte (8 : Int32) [(.int (43 : Int32)), (.int (47 : Int32)), (.int (61 : Int32)), (.int (45 : Int32)), (.int (124 : Int32)), (.int (46 : Int32)), (.int (95 : Int32)), (.int (35 : Int32))] (.int (0 : Int32))) :
    MetFree l (⟨"java/lang/String", "indexOf", "(II)I"⟩ : MethodName) (head1 (Jvm.Cond.code (⟨"java/lang/String", "indexOf", "(II)I"⟩ : MethodName) jdk_42_method_80_code 3 (some .int) :: ws) ({ frames := 2, cells := 0, slots := 0, locals := 32 } : Room)) (fun aA UA => aA = #[(.ref a), (.int (95 : Int32)), (.int (0 : Int32))] ∧ Z.Warmed39 UA.vm ∧ UA.heap = h0) (fun _ _ _ _ _ => True) (fun _ UA oA UB => ∃ rV LE, oA = .returned rV ∧ QrmIi95 Z a cs d kd h0 n0 rV UB.heap LE ∧ FrameEnd UA oA UB LE ({ frames := 2, cells := 0, slots := 0, locals := 32 } : Room).cells ({ frames := 2, cells := 0, slots := 0, locals := 32 } : Room).slots) := by
  refine MetFree.of_bodySF (plainFor_of_name pn_1) hisR ?_
  intro p e s m args below meth c s₁ Bd hml0 hP hK
  obtain ⟨rfl, hZ, hh⟩ := hP
  have hx := Bd.exec
  have hby := Bd.bytes
  have hml : c.maxLocals = 3 := hml0
  have hown : s.vm.findClass "java/lang/String" = some m.cls := findClass_of_methodNamed Bd.named
  have hnm := (name_of_methodNamed Bd.named Bd.method).1
  have hlk := Bd.notSynchronized
  have X0 : Stand p l e ({ frames := 2, cells := 0, slots := 0, locals := 32 } : Room) s m #[(.ref a), (.int (95 : Int32)), (.int (0 : Int32))] below meth c s₁ [] 0 0 := Stand.of_body Bd
  have e0 : s₁.heap = h0 := by rw [← hh, Bd.state]; rfl
  have N0 := Fr.nil n0
  show Go p e below s (QrmIi95 Z a cs d kd h0 n0) ({ frames := 2, cells := 0, slots := 0, locals := 32 } : Room).cells ({ frames := 2, cells := 0, slots := 0, locals := 32 } : Room).slots s₁ (entryFrame m #[(.ref a), (.int (95 : Int32)), (.int (0 : Int32))] 3)
  refine Go.eq (ef_rmIi95 m a) ?_
  show Go p e below s _ _ _ s₁ (mkF m 0 #[.val (.ref a), .val (.int (95 : Int32)), .val (.int (0 : Int32))] [])
  refine Go.st (fun _ => XS.aloadN X0.here hx rfl (hb hby d18_0) rfl rfl) ?_
  show Go p e below s _ _ _ s₁ (mkF m 1 #[.val (.ref a), .val (.int (95 : Int32)), .val (.int (0 : Int32))] [(.ref a)])
  obtain ⟨cq_1, kq_1, q_1a, q_1b, q_1c⟩ := isOf hZ e0 E_a
  obtain ⟨_, _, ⟨T_1, L_1, kc_1, nc_1⟩, -, X_1, ⟨Lc_1, hQ_1, l_1, y_1, z_1⟩, st_1⟩ := X0.virtualBack hx (y := (⟨"java/lang/String", "isLatin1", "()Z"⟩ : MethodName)) (z := (⟨"java/lang/String", "isLatin1", "()Z"⟩ : MethodName)) hown (mvT hZ (hw _ (List.mem_of_getElem? (i := 55) rfl))) (mvT hZ (hw _ (List.mem_of_getElem? (i := 56) rfl))) (notFace_of_selects (args := #[]) (mvT hZ (hw _ (List.mem_of_getElem? (i := 58) rfl)))) (mvT hZ (hw _ (List.mem_of_getElem? (i := 58) rfl))) (mvT hZ (hw _ (List.mem_of_getElem? (i := 57) rfl))) (by decide) (backOf (W := 0) (rmLat l Z a0 hw [] a cs h0 n0 Z0 S_COMPACT_STRINGS hcs F_coder_a) hZ (hw _ (List.mem_of_getElem? (i := 59) rfl)) (hw _ (List.mem_of_getElem? (i := 8) rfl)) (by decide) (by decide)) q_1a q_1c (g := (mkF m 1 #[.val (.ref a), .val (.int (95 : Int32)), .val (.int (0 : Int32))] [(.ref a)])) rfl (by rw [hml]; rfl) (Steps.refl _) (argsL := []) (rest := []) (lenOf pd_5 rfl) rfl (by show 2 * 0 + _ ≤ _; exact Nat.le_of_eq rfl) (hb hby d18_1) (fun _ _ => ⟨rfl, e0, (by decide : 0 + 0 ≤ _), (by decide : 0 + 0 ≤ _)⟩)
  dsimp only [Pt.U, Pt.locs, Pt.cells, Pt.slots] at X_1 l_1 y_1 z_1 st_1 hQ_1
  obtain rfl : kc_1 = 0 := y_1
  obtain rfl : nc_1 = 0 := z_1
  obtain ⟨h_1, e_1⟩ : ∃ hh, T_1.heap = hh := ⟨_, rfl⟩
  rw [e_1] at hQ_1
  obtain ⟨rfl, N_1q, sm_1⟩ := hQ_1
  have N_1 : Fr n0 L_1 := by rw [l_1]; exact Fr.app N0 N_1q
  refine Go.st (fun _ kk => st_1.trans kk) ?_
  rw [sm_1] at e_1
  show Go p e below s _ _ _ T_1 (mkF m 4 #[.val (.ref a), .val (.int (95 : Int32)), .val (.int (0 : Int32))] [(.int (1 : Int32))])
  refine Go.st (fun _ => XS.ifNo X_1.here hx rfl (hb hby d18_4) rfl ((if0 _ _).trans (feq (by decide : ¬ ((1 : Int32) = (0 : Int32)))).1)) ?_
  show Go p e below s _ _ _ T_1 (mkF m 7 #[.val (.ref a), .val (.int (95 : Int32)), .val (.int (0 : Int32))] [])
  refine Go.st (fun _ => XS.aloadN X_1.here hx rfl (hb hby d18_7) rfl rfl) ?_
  show Go p e below s _ _ _ T_1 (mkF m 8 #[.val (.ref a), .val (.int (95 : Int32)), .val (.int (0 : Int32))] [(.ref a)])
  obtain ⟨T_2, X_2, e_2, st_2⟩ := getF X_1 hx hZ hown (host := "") (Or.inl (hw _ (List.mem_of_getElem? (i := 28) rfl))) Via.refl e_1 F_value_a (g := (mkF m 8 #[.val (.ref a), .val (.int (95 : Int32)), .val (.int (0 : Int32))] [(.ref a)])) rfl rfl (hb hby d18_8)
  refine Go.st st_2 ?_
  show Go p e below s _ _ _ T_2 (mkF m 11 #[.val (.ref a), .val (.int (95 : Int32)), .val (.int (0 : Int32))] [(.ref d)])
  refine Go.st (fun _ => XS.iloadN X_2.here hx rfl (hb hby d18_11) rfl) ?_
  show Go p e below s _ _ _ T_2 (mkF m 12 #[.val (.ref a), .val (.int (95 : Int32)), .val (.int (0 : Int32))] [(.int (95 : Int32)), (.ref d)])
  refine Go.st (fun _ => XS.iloadN X_2.here hx rfl (hb hby d18_12) rfl) ?_
  show Go p e below s _ _ _ T_2 (mkF m 13 #[.val (.ref a), .val (.int (95 : Int32)), .val (.int (0 : Int32))] [(.int (0 : Int32)), (.int (95 : Int32)), (.ref d)])
  refine Go.st (fun _ => XS.aloadN X_2.here hx rfl (hb hby d18_13) rfl rfl) ?_
  show Go p e below s _ _ _ T_2 (mkF m 14 #[.val (.ref a), .val (.int (95 : Int32)), .val (.int (0 : Int32))] [(.ref a), (.int (0 : Int32)), (.int (95 : Int32)), (.ref d)])
  obtain ⟨cq_3, kq_3, q_3a, q_3b, q_3c⟩ := isOf hZ e_2 E_a
  obtain ⟨_, _, ⟨T_3, L_3, kc_3, nc_3⟩, -, X_3, ⟨Lc_3, hQ_3, l_3, y_3, z_3⟩, st_3⟩ := X_2.virtualBack hx (y := (⟨"java/lang/String", "length", "()I"⟩ : MethodName)) (z := (⟨"java/lang/String", "length", "()I"⟩ : MethodName)) hown (mvT hZ (hw _ (List.mem_of_getElem? (i := 87) rfl))) (mvT hZ (hw _ (List.mem_of_getElem? (i := 41) rfl))) (notFace_of_selects (args := #[]) (mvT hZ (hw _ (List.mem_of_getElem? (i := 43) rfl)))) (mvT hZ (hw _ (List.mem_of_getElem? (i := 43) rfl))) (mvT hZ (hw _ (List.mem_of_getElem? (i := 42) rfl))) (by decide) (backOf (W := 3) (rmLen8 l Z a0 hw [] a cs d kd [(.int (43 : Int32)), (.int (47 : Int32)), (.int (61 : Int32)), (.int (45 : Int32)), (.int (124 : Int32)), (.int (46 : Int32)), (.int (95 : Int32)), (.int (35 : Int32))] h0 n0 Z0 S_COMPACT_STRINGS hcs E_a F_coder_a F_value_a V_d) hZ (hw _ (List.mem_of_getElem? (i := 44) rfl)) (hw _ (List.mem_of_getElem? (i := 8) rfl)) (by decide) (by decide)) q_3a q_3c (g := (mkF m 14 #[.val (.ref a), .val (.int (95 : Int32)), .val (.int (0 : Int32))] [(.ref a), (.int (0 : Int32)), (.int (95 : Int32)), (.ref d)])) rfl (by rw [hml]; rfl) (Steps.refl _) (argsL := []) (rest := [(.int (0 : Int32)), (.int (95 : Int32)), (.ref d)]) (lenOf pd_11 rfl) rfl (by show 2 * 0 + _ ≤ _; exact Nat.le_of_eq rfl) (hb hby d18_14) (fun _ _ => ⟨rfl, e_2, (by decide : 0 + 0 ≤ _), (by decide : 0 + 0 ≤ _)⟩)
  dsimp only [Pt.U, Pt.locs, Pt.cells, Pt.slots] at X_3 l_3 y_3 z_3 st_3 hQ_3
  obtain rfl : kc_3 = 0 := y_3
  obtain rfl : nc_3 = 0 := z_3
  obtain ⟨h_3, e_3⟩ : ∃ hh, T_3.heap = hh := ⟨_, rfl⟩
  rw [e_3] at hQ_3
  obtain ⟨rfl, N_3q, sm_3⟩ := hQ_3
  have N_3 : Fr n0 L_3 := by rw [l_3]; exact Fr.app N_1 N_3q
  refine Go.st (fun _ kk => st_3.trans kk) ?_
  rw [sm_3] at e_3
  show Go p e below s _ _ _ T_3 (mkF m 17 #[.val (.ref a), .val (.int (95 : Int32)), .val (.int (0 : Int32))] [(.int (8 : Int32)), (.int (0 : Int32)), (.int (95 : Int32)), (.ref d)])
  obtain ⟨_, _, ⟨T_4, L_4, kc_4, nc_4⟩, -, X_4, ⟨Lc_4, hQ_4, l_4, y_4, z_4⟩, st_4⟩ := Jvm.LawKit.callS X_3 hx (y := (⟨"java/lang/StringLatin1", "indexOf", "([BIII)I"⟩ : MethodName)) hown (mvT hZ (hw _ (List.mem_of_getElem? (i := 88) rfl))) (mvT hZ (hw _ (List.mem_of_getElem? (i := 89) rfl))) (mvT hZ (hw _ (List.mem_of_getElem? (i := 13) rfl))) (mvT hZ (hw _ (List.mem_of_getElem? (i := 90) rfl))) (by decide) (backOf (W := 0) (rmIf95 l Z a0 hw [] d kd h0 n0 Z0 V_d) hZ (hw _ (List.mem_of_getElem? (i := 90) rfl)) (hw _ (List.mem_of_getElem? (i := 13) rfl)) (by decide) (by decide)) (g := (mkF m 17 #[.val (.ref a), .val (.int (95 : Int32)), .val (.int (0 : Int32))] [(.int (8 : Int32)), (.int (0 : Int32)), (.int (95 : Int32)), (.ref d)])) rfl (by rw [hml]; rfl) (argsL := [(.ref d), (.int (95 : Int32)), (.int (0 : Int32)), (.int (8 : Int32))]) (rest := []) (lenOf pd_9 rfl) rfl (by show 2 * 0 + _ ≤ _; exact Nat.le_of_eq rfl) (hb hby d18_17) (fun _ _ => ⟨rfl, e_3, (by decide : 0 + 0 ≤ _), (by decide : 0 + 0 ≤ _)⟩)
  dsimp only [Pt.U, Pt.locs, Pt.cells, Pt.slots] at X_4 l_4 y_4 z_4 st_4 hQ_4
  obtain rfl : kc_4 = 0 := y_4
  obtain rfl : nc_4 = 0 := z_4
  obtain ⟨h_4, e_4⟩ : ∃ hh, T_4.heap = hh := ⟨_, rfl⟩
  rw [e_4] at hQ_4
  obtain ⟨rfl, N_4q, sm_4⟩ := hQ_4
  have N_4 : Fr n0 L_4 := by rw [l_4]; exact Fr.app N_3 N_4q
  refine Go.st st_4 ?_
  rw [sm_4] at e_4
  show Go p e below s _ _ _ T_4 (mkF m 20 #[.val (.ref a), .val (.int (95 : Int32)), .val (.int (0 : Int32))] [(.int (6 : Int32))])
  refine Go.st (fun _ => XS.goto X_4.here hx rfl (pc0 := 20) (pc' := 36) rfl (hb hby d18_20) (by decide) (by decide)) ?_
  show Go p e below s _ _ _ T_4 (mkF m 36 #[.val (.ref a), .val (.int (95 : Int32)), .val (.int (0 : Int32))] [(.int (6 : Int32))])
  exact Go.retI X_4 hx hlk Bd.returns (hb hby d18_36) (by rw [e_4]; exact ⟨rfl, N_4, rfl⟩) (by decide) (by decide)
theorem ef_rmIo95 (m : MethodId) (a : Addr) : entryFrame m #[(.ref a), (.int (95 : Int32))] 2 = mkF m 0 #[.val (.ref a), .val (.int (95 : Int32))] [] := by first | (simp [entryFrame, mkF, argsToLocals, Value.category]; done) | rfl
def QrmIo95 (Z : State) (a : Addr) (cs : Int32) (d : Addr) (kd : ClassId) (h0 : Heap) (n0 : Nat) (rV : Option Value) (hE : Heap) (LE : List Loc) : Prop := rV = some (.int (6 : Int32)) ∧ Fr n0 LE ∧ hE = h0
set_option maxRecDepth 65536 in
set_option maxHeartbeats 40000000 in
theorem rmIo95 (l : Launch) (Z : State) (a0 : Array Value) (hw : ∀ d ∈ tables_1, d.before a0 Z = true) (ws : List Jvm.Cond) (a : Addr) (cs : Int32) (d : Addr) (kd : ClassId) (h0 : Heap) (n0 : Nat) (Z0 : n0 ≤ h0.size) (S_COMPACT_STRINGS : Sta Z h0 "java/lang/String" "COMPACT_STRINGS" "Z" (.int cs)) (hcs : ¬ (cs = (0 : Int32))) (E_a : Exa Z h0 a "java/lang/String") (F_coder_a : Fld Z h0 a "java/lang/String" "coder" "B" (.int (0 : Int32))) (F_value_a : Fld Z h0 a "java/lang/String" "value" "[B" (.ref d)) (V_d : Arv Z h0 d kd .byte (8 : Int32) [(.int (43 : Int32)), (.int (47 : Int32)), (.int (61 : Int32)), (.int (45 : Int32)), (.int (124 : Int32)), (.int (46 : Int32)), (.int (95 : Int32)), (.int (35 : Int32))] (.int (0 : Int32))) :
    MetFree l (⟨"java/lang/String", "indexOf", "(I)I"⟩ : MethodName) (head1 (Jvm.Cond.code (⟨"java/lang/String", "indexOf", "(I)I"⟩ : MethodName) jdk_42_method_79_code 2 (some .int) :: ws) ({ frames := 3, cells := 0, slots := 0, locals := 46 } : Room)) (fun aA UA => aA = #[(.ref a), (.int (95 : Int32))] ∧ Z.Warmed39 UA.vm ∧ UA.heap = h0) (fun _ _ _ _ _ => True) (fun _ UA oA UB => ∃ rV LE, oA = .returned rV ∧ QrmIo95 Z a cs d kd h0 n0 rV UB.heap LE ∧ FrameEnd UA oA UB LE ({ frames := 3, cells := 0, slots := 0, locals := 46 } : Room).cells ({ frames := 3, cells := 0, slots := 0, locals := 46 } : Room).slots) := by
  refine MetFree.of_bodySF (plainFor_of_name pn_1) hisR ?_
  intro p e s m args below meth c s₁ Bd hml0 hP hK
  obtain ⟨rfl, hZ, hh⟩ := hP
  have hx := Bd.exec
  have hby := Bd.bytes
  have hml : c.maxLocals = 2 := hml0
  have hown : s.vm.findClass "java/lang/String" = some m.cls := findClass_of_methodNamed Bd.named
  have hnm := (name_of_methodNamed Bd.named Bd.method).1
  have hlk := Bd.notSynchronized
  have X0 : Stand p l e ({ frames := 3, cells := 0, slots := 0, locals := 46 } : Room) s m #[(.ref a), (.int (95 : Int32))] below meth c s₁ [] 0 0 := Stand.of_body Bd
  have e0 : s₁.heap = h0 := by rw [← hh, Bd.state]; rfl
  have N0 := Fr.nil n0
  show Go p e below s (QrmIo95 Z a cs d kd h0 n0) ({ frames := 3, cells := 0, slots := 0, locals := 46 } : Room).cells ({ frames := 3, cells := 0, slots := 0, locals := 46 } : Room).slots s₁ (entryFrame m #[(.ref a), (.int (95 : Int32))] 2)
  refine Go.eq (ef_rmIo95 m a) ?_
  show Go p e below s _ _ _ s₁ (mkF m 0 #[.val (.ref a), .val (.int (95 : Int32))] [])
  refine Go.st (fun _ => XS.aloadN X0.here hx rfl (hb hby d17_0) rfl rfl) ?_
  show Go p e below s _ _ _ s₁ (mkF m 1 #[.val (.ref a), .val (.int (95 : Int32))] [(.ref a)])
  refine Go.st (fun _ => XS.iloadN X0.here hx rfl (hb hby d17_1) rfl) ?_
  show Go p e below s _ _ _ s₁ (mkF m 2 #[.val (.ref a), .val (.int (95 : Int32))] [(.int (95 : Int32)), (.ref a)])
  refine Go.st (fun _ => XS.iconst X0.here hx rfl (hb hby d17_2)) ?_
  show Go p e below s _ _ _ s₁ (mkF m 3 #[.val (.ref a), .val (.int (95 : Int32))] [(.int (0 : Int32)), (.int (95 : Int32)), (.ref a)])
  obtain ⟨cq_1, kq_1, q_1a, q_1b, q_1c⟩ := isOf hZ e0 E_a
  obtain ⟨_, _, ⟨T_1, L_1, kc_1, nc_1⟩, -, X_1, ⟨Lc_1, hQ_1, l_1, y_1, z_1⟩, st_1⟩ := X0.virtualBack hx (y := (⟨"java/lang/String", "indexOf", "(II)I"⟩ : MethodName)) (z := (⟨"java/lang/String", "indexOf", "(II)I"⟩ : MethodName)) hown (mvT hZ (hw _ (List.mem_of_getElem? (i := 82) rfl))) (mvT hZ (hw _ (List.mem_of_getElem? (i := 83) rfl))) (notFace_of_selects (args := #[]) (mvT hZ (hw _ (List.mem_of_getElem? (i := 85) rfl)))) (mvT hZ (hw _ (List.mem_of_getElem? (i := 85) rfl))) (mvT hZ (hw _ (List.mem_of_getElem? (i := 84) rfl))) (by decide) (backOf (W := 0) (rmIi95 l Z a0 hw [] a cs d kd h0 n0 Z0 S_COMPACT_STRINGS hcs E_a F_coder_a F_value_a V_d) hZ (hw _ (List.mem_of_getElem? (i := 86) rfl)) (hw _ (List.mem_of_getElem? (i := 8) rfl)) (by decide) (by decide)) q_1a q_1c (g := (mkF m 3 #[.val (.ref a), .val (.int (95 : Int32))] [(.int (0 : Int32)), (.int (95 : Int32)), (.ref a)])) rfl (by rw [hml]; rfl) (Steps.refl _) (argsL := [(.int (95 : Int32)), (.int (0 : Int32))]) (rest := []) (lenOf pd_8 rfl) rfl (by show 2 * 0 + _ ≤ _; exact Nat.le_of_eq rfl) (hb hby d17_3) (fun _ _ => ⟨rfl, e0, (by decide : 0 + 0 ≤ _), (by decide : 0 + 0 ≤ _)⟩)
  dsimp only [Pt.U, Pt.locs, Pt.cells, Pt.slots] at X_1 l_1 y_1 z_1 st_1 hQ_1
  obtain rfl : kc_1 = 0 := y_1
  obtain rfl : nc_1 = 0 := z_1
  obtain ⟨h_1, e_1⟩ : ∃ hh, T_1.heap = hh := ⟨_, rfl⟩
  rw [e_1] at hQ_1
  obtain ⟨rfl, N_1q, sm_1⟩ := hQ_1
  have N_1 : Fr n0 L_1 := by rw [l_1]; exact Fr.app N0 N_1q
  refine Go.st (fun _ kk => st_1.trans kk) ?_
  rw [sm_1] at e_1
  show Go p e below s _ _ _ T_1 (mkF m 6 #[.val (.ref a), .val (.int (95 : Int32))] [(.int (6 : Int32))])
  exact Go.retI X_1 hx hlk Bd.returns (hb hby d17_6) (by rw [e_1]; exact ⟨rfl, N_1, rfl⟩) (by decide) (by decide)
theorem d16_18 : decode prog_20_method_4_code 18 = .ok (.iload_n 0, 1) := by decide +kernel
theorem d16_19 : decode prog_20_method_4_code 19 = .ok (.bipush 90, 2) := by decide +kernel
theorem d16_21 : decode prog_20_method_4_code 21 = .ok (.if_icmp .le 15, 3) := by decide +kernel
theorem d16_30 : decode prog_20_method_4_code 30 = .ok (.iload_n 0, 1) := by decide +kernel
theorem d16_31 : decode prog_20_method_4_code 31 = .ok (.bipush 57, 2) := by decide +kernel
theorem d16_33 : decode prog_20_method_4_code 33 = .ok (.if_icmp .gt 5, 3) := by decide +kernel
theorem ef_rmId95 (m : MethodId)  : entryFrame m #[(.int (95 : Int32))] 1 = mkF m 0 #[.val (.int (95 : Int32))] [] := by first | (simp [entryFrame, mkF, argsToLocals, Value.category]; done) | rfl
def QrmId95 (Z : State) (cs : Int32) (h0 : Heap) (n0 : Nat) (rV : Option Value) (hE : Heap) (LE : List Loc) : Prop := rV = some (.int (1 : Int32)) ∧ Fr n0 LE ∧ Keep h0 hE []
set_option maxRecDepth 65536 in
set_option maxHeartbeats 40000000 in
theorem rmId95 (l : Launch) (Z : State) (a0 : Array Value) (hw : ∀ d ∈ tables_1, d.before a0 Z = true) (ws : List Jvm.Cond) (cs : Int32) (h0 : Heap) (n0 : Nat) (Z0 : n0 ≤ h0.size) (S_COMPACT_STRINGS : Sta Z h0 "java/lang/String" "COMPACT_STRINGS" "Z" (.int cs)) (hcs : ¬ (cs = (0 : Int32))) :
    MetFree l (⟨"com/example/contextwire/contextwire/RequestId", "isIdChar", "(C)Z"⟩ : MethodName) (head1 (Jvm.Cond.code (⟨"com/example/contextwire/contextwire/RequestId", "isIdChar", "(C)Z"⟩ : MethodName) prog_20_method_4_code 1 (some .boolean) :: ws) ({ frames := 4, cells := 2, slots := 36, locals := 59 } : Room)) (fun aA UA => aA = #[(.int (95 : Int32))] ∧ Z.Warmed39 UA.vm ∧ UA.heap = h0 ∧ CHv Z consts_1 UA.vm h0) (fun _ _ _ _ _ => True) (fun _ UA oA UB => ∃ rV LE, oA = .returned rV ∧ QrmId95 Z cs h0 n0 rV UB.heap LE ∧ CHr Z consts_1 UA.vm UA.heap UB.vm UB.heap ∧ ReturnedEndW UA oA UB LE ({ frames := 4, cells := 2, slots := 36, locals := 59 } : Room).cells ({ frames := 4, cells := 2, slots := 36, locals := 59 } : Room).slots) := by
  refine MetFree.of_bodySF (plainFor_of_name pn_3) hisR ?_
  intro p e s m args below meth c s₁ Bd hml0 hP hK
  obtain ⟨rfl, hZ, hh, hCH⟩ := hP
  have wS := ws1 hw
  have hEL := ew1 hw
  have HE0 := OwnH.start hh hCH
  have hZ : Z.Warmed39 (s.setVm s.vm).vm := hZ
  have hx := Bd.exec
  have hby := Bd.bytes
  have hml : c.maxLocals = 1 := hml0
  have hown : (s.setVm s.vm).vm.findClass "com/example/contextwire/contextwire/RequestId" = some m.cls := findClass_of_methodNamed Bd.named
  have hnm := (name_of_methodNamed Bd.named Bd.method).1
  have hlk := Bd.notSynchronized
  have X0 : Stand p l e ({ frames := 4, cells := 2, slots := 36, locals := 59 } : Room) (s.setVm s.vm) m #[(.int (95 : Int32))] below meth c s₁ [] 0 0 := Stand.of_body Bd
  have e0 : s₁.heap = h0 := by rw [← hh, Bd.state]; rfl
  have N0 := Fr.nil n0
  show GoS p e below s Z consts_1 (QrmId95 Z cs h0 n0) ({ frames := 4, cells := 2, slots := 36, locals := 59 } : Room).cells ({ frames := 4, cells := 2, slots := 36, locals := 59 } : Room).slots s₁ (entryFrame m #[(.int (95 : Int32))] 1)
  refine GoS.eq (ef_rmId95 m ) ?_
  show GoS p e below s _ _ _ _ _ s₁ (mkF m 0 #[.val (.int (95 : Int32))] [])
  refine GoS.st (fun _ => XS.iloadN X0.here hx rfl (hb hby d16_0) rfl) ?_
  show GoS p e below s _ _ _ _ _ s₁ (mkF m 1 #[.val (.int (95 : Int32))] [(.int (95 : Int32))])
  refine GoS.st (fun _ => XS.bipush X0.here hx rfl (hb hby d16_1)) ?_
  show GoS p e below s _ _ _ _ _ s₁ (mkF m 3 #[.val (.int (95 : Int32))] [(.int (97 : Int32)), (.int (95 : Int32))])
  refine GoS.st (fun _ => XS.icmpYes X0.here hx rfl (pc0 := 3) (pc' := 12) rfl (hb hby d16_3) rfl (tlt (by decide : (95 : Int32) < (97 : Int32))).1 (by decide) (by decide)) ?_
  show GoS p e below s _ _ _ _ _ s₁ (mkF m 12 #[.val (.int (95 : Int32))] [])
  refine GoS.st (fun _ => XS.iloadN X0.here hx rfl (hb hby d16_12) rfl) ?_
  show GoS p e below s _ _ _ _ _ s₁ (mkF m 13 #[.val (.int (95 : Int32))] [(.int (95 : Int32))])
  refine GoS.st (fun _ => XS.bipush X0.here hx rfl (hb hby d16_13)) ?_
  show GoS p e below s _ _ _ _ _ s₁ (mkF m 15 #[.val (.int (95 : Int32))] [(.int (65 : Int32)), (.int (95 : Int32))])
  refine GoS.st (fun _ => XS.icmpNo X0.here hx rfl (hb hby d16_15) rfl (flt (by decide : ¬ ((95 : Int32) < (65 : Int32)))).1) ?_
  show GoS p e below s _ _ _ _ _ s₁ (mkF m 18 #[.val (.int (95 : Int32))] [])
  refine GoS.st (fun _ => XS.iloadN X0.here hx rfl (hb hby d16_18) rfl) ?_
  show GoS p e below s _ _ _ _ _ s₁ (mkF m 19 #[.val (.int (95 : Int32))] [(.int (95 : Int32))])
  refine GoS.st (fun _ => XS.bipush X0.here hx rfl (hb hby d16_19)) ?_
  show GoS p e below s _ _ _ _ _ s₁ (mkF m 21 #[.val (.int (95 : Int32))] [(.int (90 : Int32)), (.int (95 : Int32))])
  refine GoS.st (fun _ => XS.icmpNo X0.here hx rfl (hb hby d16_21) rfl (tlt (by decide : (90 : Int32) < (95 : Int32))).2.2.2) ?_
  show GoS p e below s _ _ _ _ _ s₁ (mkF m 24 #[.val (.int (95 : Int32))] [])
  refine GoS.st (fun _ => XS.iloadN X0.here hx rfl (hb hby d16_24) rfl) ?_
  show GoS p e below s _ _ _ _ _ s₁ (mkF m 25 #[.val (.int (95 : Int32))] [(.int (95 : Int32))])
  refine GoS.st (fun _ => XS.bipush X0.here hx rfl (hb hby d16_25)) ?_
  show GoS p e below s _ _ _ _ _ s₁ (mkF m 27 #[.val (.int (95 : Int32))] [(.int (48 : Int32)), (.int (95 : Int32))])
  refine GoS.st (fun _ => XS.icmpNo X0.here hx rfl (hb hby d16_27) rfl (flt (by decide : ¬ ((95 : Int32) < (48 : Int32)))).1) ?_
  show GoS p e below s _ _ _ _ _ s₁ (mkF m 30 #[.val (.int (95 : Int32))] [])
  refine GoS.st (fun _ => XS.iloadN X0.here hx rfl (hb hby d16_30) rfl) ?_
  show GoS p e below s _ _ _ _ _ s₁ (mkF m 31 #[.val (.int (95 : Int32))] [(.int (95 : Int32))])
  refine GoS.st (fun _ => XS.bipush X0.here hx rfl (hb hby d16_31)) ?_
  show GoS p e below s _ _ _ _ _ s₁ (mkF m 33 #[.val (.int (95 : Int32))] [(.int (57 : Int32)), (.int (95 : Int32))])
  refine GoS.st (fun _ => XS.icmpYes X0.here hx rfl (pc0 := 33) (pc' := 38) rfl (hb hby d16_33) rfl (tlt (by decide : (57 : Int32) < (95 : Int32))).2.2.1 (by decide) (by decide)) ?_
  show GoS p e below s _ _ _ _ _ s₁ (mkF m 38 #[.val (.int (95 : Int32))] [])
  obtain ⟨⟨_, hS_1, hk_1⟩, -⟩ := id HE0
  obtain ⟨a_1, T_1, h_1, k1_1, d_1, kd_1, X_1, e_1, E_1, hS_1', hk_1', hZ, hown, A_1, C_1, F_1, V_1, la_1, lb_1, CH_1, -, sf_1, st_1⟩ := ldcCH X0 hx hZ hown (hw _ (List.mem_of_getElem? (i := 74) rfl)) wS e0 hS_1 hk_1 hEL (List.mem_of_getElem? (i := 0) rfl) HE0.chv (vs := [(.int (43 : Int32)), (.int (47 : Int32)), (.int (61 : Int32)), (.int (45 : Int32)), (.int (124 : Int32)), (.int (46 : Int32)), (.int (95 : Int32)), (.int (35 : Int32))]) (z := (8 : Int32)) ⟨by decide +kernel, by decide +kernel⟩ (by decide) (by decide) (g := (mkF m 38 #[.val (.int (95 : Int32))] [])) rfl (hb hby d16_38) (n := 32) (by decide +kernel) (by decide) (by decide) (by decide)
  have HE_1 := HE0.next hS_1' hk_1' CH_1
  refine GoS.st st_1 ?_
  have z_1 : n0 ≤ h_1.size := Nat.le_trans Z0 E_1.1
  have K_1 : Keep h0 h_1 [] := (Keep.refl h0 []).ext E_1
  show GoS p e below s _ _ _ _ _ T_1 (mkF m 40 #[.val (.int (95 : Int32))] [(.ref a_1)])
  refine GoS.st (fun _ => XS.iloadN X_1.here hx rfl (hb hby d16_40) rfl) ?_
  show GoS p e below s _ _ _ _ _ T_1 (mkF m 41 #[.val (.int (95 : Int32))] [(.int (95 : Int32)), (.ref a_1)])
  have f_3 := (S_COMPACT_STRINGS.ext E_1)
  obtain ⟨cq_2, kq_2, q_2a, q_2b, q_2c⟩ := isOf hZ e_1 A_1
  obtain ⟨_, _, ⟨T_2, L_2, kc_2, nc_2⟩, -, X_2, ⟨Lc_2, hQ_2, l_2, y_2, z_2⟩, st_2⟩ := X_1.virtualBack hx (y := (⟨"java/lang/String", "indexOf", "(I)I"⟩ : MethodName)) (z := (⟨"java/lang/String", "indexOf", "(I)I"⟩ : MethodName)) hown (mvT hZ (hw _ (List.mem_of_getElem? (i := 77) rfl))) (mvT hZ (hw _ (List.mem_of_getElem? (i := 78) rfl))) (notFace_of_selects (args := #[]) (mvT hZ (hw _ (List.mem_of_getElem? (i := 80) rfl)))) (mvT hZ (hw _ (List.mem_of_getElem? (i := 80) rfl))) (mvT hZ (hw _ (List.mem_of_getElem? (i := 79) rfl))) (by decide) (backOf (W := 0) (rmIo95 l Z a0 hw [] a_1 cs d_1 kd_1 h_1 n0 z_1 f_3 hcs A_1 C_1 F_1 V_1) hZ (hw _ (List.mem_of_getElem? (i := 81) rfl)) (hw _ (List.mem_of_getElem? (i := 8) rfl)) (by decide) (by decide)) q_2a q_2c (g := (mkF m 41 #[.val (.int (95 : Int32))] [(.int (95 : Int32)), (.ref a_1)])) rfl (by rw [hml]; rfl) (Steps.refl _) (argsL := [(.int (95 : Int32))]) (rest := []) (lenOf pd_12 rfl) rfl (by show 2 * 0 + _ ≤ _; exact Nat.le_of_eq rfl) (hb hby d16_41) (fun _ _ => ⟨rfl, e_1, (by decide : 2 + 0 ≤ _), (by decide : 36 + 0 ≤ _)⟩)
  dsimp only [Pt.U, Pt.locs, Pt.cells, Pt.slots] at X_2 l_2 y_2 z_2 st_2 hQ_2
  obtain rfl : kc_2 = 2 := y_2
  obtain rfl : nc_2 = 36 := z_2
  obtain ⟨h_2, e_2⟩ : ∃ hh, T_2.heap = hh := ⟨_, rfl⟩
  rw [e_2] at hQ_2
  obtain ⟨rfl, N_2q, sm_2⟩ := hQ_2
  have N_2 : Fr n0 L_2 := by rw [l_2]; exact Fr.app N0 N_2q
  refine GoS.st (fun _ kk => st_2.trans kk) ?_
  rw [sm_2] at e_2
  show GoS p e below s _ _ _ _ _ T_2 (mkF m 44 #[.val (.int (95 : Int32))] [(.int (6 : Int32))])
  refine GoS.st (fun _ => XS.ifNo X_2.here hx rfl (hb hby d16_44) rfl ((if0 _ _).trans (flt (by decide : ¬ ((6 : Int32) < (0 : Int32)))).1)) ?_
  show GoS p e below s _ _ _ _ _ T_2 (mkF m 47 #[.val (.int (95 : Int32))] [])
  refine GoS.st (fun _ => XS.iconst X_2.here hx rfl (hb hby d16_47)) ?_
  show GoS p e below s _ _ _ _ _ T_2 (mkF m 48 #[.val (.int (95 : Int32))] [(.int (1 : Int32))])
  refine GoS.st (fun _ => XS.goto X_2.here hx rfl (pc0 := 48) (pc' := 52) rfl (hb hby d16_48) (by decide) (by decide)) ?_
  show GoS p e below s _ _ _ _ _ T_2 (mkF m 52 #[.val (.int (95 : Int32))] [(.int (1 : Int32))])
  exact GoS.retZ hZ hEL HE_1 e_2 X_2 hx hlk Bd.returns (hb hby d16_52) rfl (by rw [e_2]; exact ⟨rfl, N_2, K_1⟩) (by decide) (by decide)
theorem ef_rmVa95 (m : MethodId) (a : Addr) : entryFrame m #[(.ref a)] 2 = mkF m 0 #[.val (.ref a), .unset] [] := by first | (simp [entryFrame, mkF, argsToLocals, Value.category]; done) | rfl
def QrmVa95 (Z : State) (a : Addr) (cs : Int32) (d : Addr) (kd : ClassId) (fm : Value) (h0 : Heap) (n0 : Nat) (rV : Option Value) (hE : Heap) (LE : List Loc) : Prop := rV = some (.int (1 : Int32)) ∧ Fr n0 LE ∧ Keep h0 hE []
set_option maxRecDepth 65536 in
set_option maxHeartbeats 40000000 in
theorem rmVa95 (l : Launch) (Z : State) (a0 : Array Value) (hw : ∀ d ∈ tables_1, d.before a0 Z = true) (ws : List Jvm.Cond) (a : Addr) (cs : Int32) (d : Addr) (kd : ClassId) (fm : Value) (h0 : Heap) (n0 : Nat) (Z0 : n0 ≤ h0.size) (S_COMPACT_STRINGS : Sta Z h0 "java/lang/String" "COMPACT_STRINGS" "Z" (.int cs)) (hcs : ¬ (cs = (0 : Int32))) (S_SIOOBE_FORMATTER : Sta Z h0 "jdk/internal/util/Preconditions" "SIOOBE_FORMATTER" "Ljava/util/function/BiFunction;" fm) (rf_fm : fm.isRef = true) (E_a : Exa Z h0 a "java/lang/String") (F_coder_a : Fld Z h0 a "java/lang/String" "coder" "B" (.int (0 : Int32))) (F_value_a : Fld Z h0 a "java/lang/String" "value" "[B" (.ref d)) (V_d : Arv Z h0 d kd .byte (1 : Int32) [(.int (95 : Int32))] (.int (0 : Int32))) :
    MetFree l (⟨"com/example/contextwire/contextwire/RequestId", "isValid", "(Ljava/lang/String;)Z"⟩ : MethodName) (head1 (Jvm.Cond.code (⟨"com/example/contextwire/contextwire/RequestId", "isValid", "(Ljava/lang/String;)Z"⟩ : MethodName) prog_20_method_2_code 2 (some .boolean) :: ws) ({ frames := 5, cells := 2, slots := 36, locals := 71 } : Room)) (fun aA UA => aA = #[(.ref a)] ∧ Z.Warmed39 UA.vm ∧ UA.heap = h0 ∧ CHv Z consts_1 UA.vm h0) (fun _ _ _ _ _ => True) (fun _ UA oA UB => ∃ rV LE, oA = .returned rV ∧ QrmVa95 Z a cs d kd fm h0 n0 rV UB.heap LE ∧ CHr Z consts_1 UA.vm UA.heap UB.vm UB.heap ∧ ReturnedEndW UA oA UB LE ({ frames := 5, cells := 2, slots := 36, locals := 71 } : Room).cells ({ frames := 5, cells := 2, slots := 36, locals := 71 } : Room).slots) := by
  refine MetFree.of_bodySF (plainFor_of_name pn_3) hisR ?_
  intro p e s m args below meth c s₁ Bd hml0 hP hK
  obtain ⟨rfl, hZ, hh, hCH⟩ := hP
  have wS := ws1 hw
  have hEL := ew1 hw
  have HE0 := OwnH.start hh hCH
  have hZ : Z.Warmed39 (s.setVm s.vm).vm := hZ
  have hx := Bd.exec
  have hby := Bd.bytes
  have hml : c.maxLocals = 2 := hml0
  have hown : (s.setVm s.vm).vm.findClass "com/example/contextwire/contextwire/RequestId" = some m.cls := findClass_of_methodNamed Bd.named
  have hnm := (name_of_methodNamed Bd.named Bd.method).1
  have hlk := Bd.notSynchronized
  have X0 : Stand p l e ({ frames := 5, cells := 2, slots := 36, locals := 71 } : Room) (s.setVm s.vm) m #[(.ref a)] below meth c s₁ [] 0 0 := Stand.of_body Bd
  have e0 : s₁.heap = h0 := by rw [← hh, Bd.state]; rfl
  have N0 := Fr.nil n0
  show GoS p e below s Z consts_1 (QrmVa95 Z a cs d kd fm h0 n0) ({ frames := 5, cells := 2, slots := 36, locals := 71 } : Room).cells ({ frames := 5, cells := 2, slots := 36, locals := 71 } : Room).slots s₁ (entryFrame m #[(.ref a)] 2)
  refine GoS.eq (ef_rmVa95 m a) ?_
  show GoS p e below s _ _ _ _ _ s₁ (mkF m 0 #[.val (.ref a), .unset] [])
  refine GoS.st (fun _ => XS.aloadN X0.here hx rfl (hb hby d7_0) rfl rfl) ?_
  show GoS p e below s _ _ _ _ _ s₁ (mkF m 1 #[.val (.ref a), .unset] [(.ref a)])
  refine GoS.st (fun _ => XS.ifnullNo X0.here hx rfl (hb hby d7_1) rfl) ?_
  show GoS p e below s _ _ _ _ _ s₁ (mkF m 4 #[.val (.ref a), .unset] [])
  refine GoS.st (fun _ => XS.aloadN X0.here hx rfl (hb hby d7_4) rfl rfl) ?_
  show GoS p e below s _ _ _ _ _ s₁ (mkF m 5 #[.val (.ref a), .unset] [(.ref a)])
  obtain ⟨cq_1, kq_1, q_1a, q_1b, q_1c⟩ := isOf hZ e0 E_a
  obtain ⟨_, _, ⟨T_1, L_1, kc_1, nc_1⟩, -, X_1, ⟨Lc_1, hQ_1, l_1, y_1, z_1⟩, st_1⟩ := X0.virtualBack hx (y := (⟨"java/lang/String", "isEmpty", "()Z"⟩ : MethodName)) (z := (⟨"java/lang/String", "isEmpty", "()Z"⟩ : MethodName)) hown (mvT hZ (hw _ (List.mem_of_getElem? (i := 35) rfl))) (mvT hZ (hw _ (List.mem_of_getElem? (i := 36) rfl))) (notFace_of_selects (args := #[]) (mvT hZ (hw _ (List.mem_of_getElem? (i := 38) rfl)))) (mvT hZ (hw _ (List.mem_of_getElem? (i := 38) rfl))) (mvT hZ (hw _ (List.mem_of_getElem? (i := 37) rfl))) (by decide) (backOf (W := 0) (rmEmp l Z a0 hw [] a d kd [(.int (95 : Int32))] h0 n0 Z0 F_value_a V_d) hZ (hw _ (List.mem_of_getElem? (i := 39) rfl)) (hw _ (List.mem_of_getElem? (i := 8) rfl)) (by decide) (by decide)) q_1a q_1c (g := (mkF m 5 #[.val (.ref a), .unset] [(.ref a)])) rfl (by rw [hml]; rfl) (Steps.refl _) (argsL := []) (rest := []) (lenOf pd_5 rfl) rfl (by show 2 * 0 + _ ≤ _; exact Nat.le_of_eq rfl) (hb hby d7_5) (fun _ _ => ⟨rfl, e0, (by decide : 0 + 0 ≤ _), (by decide : 0 + 0 ≤ _)⟩)
  dsimp only [Pt.U, Pt.locs, Pt.cells, Pt.slots] at X_1 l_1 y_1 z_1 st_1 hQ_1
  obtain rfl : kc_1 = 0 := y_1
  obtain rfl : nc_1 = 0 := z_1
  obtain ⟨h_1, e_1⟩ : ∃ hh, T_1.heap = hh := ⟨_, rfl⟩
  rw [e_1] at hQ_1
  obtain ⟨rfl, N_1q, sm_1⟩ := hQ_1
  have N_1 : Fr n0 L_1 := by rw [l_1]; exact Fr.app N0 N_1q
  refine GoS.st (fun _ kk => st_1.trans kk) ?_
  rw [sm_1] at e_1
  show GoS p e below s _ _ _ _ _ T_1 (mkF m 8 #[.val (.ref a), .unset] [(.int (0 : Int32))])
  refine GoS.st (fun _ => XS.ifNo X_1.here hx rfl (hb hby d7_8) rfl ((if0 _ _).trans (teq (by decide : (0 : Int32) = (0 : Int32))).2)) ?_
  show GoS p e below s _ _ _ _ _ T_1 (mkF m 11 #[.val (.ref a), .unset] [])
  refine GoS.st (fun _ => XS.aloadN X_1.here hx rfl (hb hby d7_11) rfl rfl) ?_
  show GoS p e below s _ _ _ _ _ T_1 (mkF m 12 #[.val (.ref a), .unset] [(.ref a)])
  obtain ⟨cq_2, kq_2, q_2a, q_2b, q_2c⟩ := isOf hZ e_1 E_a
  obtain ⟨_, _, ⟨T_2, L_2, kc_2, nc_2⟩, -, X_2, ⟨Lc_2, hQ_2, l_2, y_2, z_2⟩, st_2⟩ := X_1.virtualBack hx (y := (⟨"java/lang/String", "length", "()I"⟩ : MethodName)) (z := (⟨"java/lang/String", "length", "()I"⟩ : MethodName)) hown (mvT hZ (hw _ (List.mem_of_getElem? (i := 40) rfl))) (mvT hZ (hw _ (List.mem_of_getElem? (i := 41) rfl))) (notFace_of_selects (args := #[]) (mvT hZ (hw _ (List.mem_of_getElem? (i := 43) rfl)))) (mvT hZ (hw _ (List.mem_of_getElem? (i := 43) rfl))) (mvT hZ (hw _ (List.mem_of_getElem? (i := 42) rfl))) (by decide) (backOf (W := 0) (rmLen1 l Z a0 hw [] a cs d kd [(.int (95 : Int32))] h0 n0 Z0 S_COMPACT_STRINGS hcs E_a F_coder_a F_value_a V_d) hZ (hw _ (List.mem_of_getElem? (i := 44) rfl)) (hw _ (List.mem_of_getElem? (i := 8) rfl)) (by decide) (by decide)) q_2a q_2c (g := (mkF m 12 #[.val (.ref a), .unset] [(.ref a)])) rfl (by rw [hml]; rfl) (Steps.refl _) (argsL := []) (rest := []) (lenOf pd_11 rfl) rfl (by show 2 * 0 + _ ≤ _; exact Nat.le_of_eq rfl) (hb hby d7_12) (fun _ _ => ⟨rfl, e_1, (by decide : 0 + 0 ≤ _), (by decide : 0 + 0 ≤ _)⟩)
  dsimp only [Pt.U, Pt.locs, Pt.cells, Pt.slots] at X_2 l_2 y_2 z_2 st_2 hQ_2
  obtain rfl : kc_2 = 0 := y_2
  obtain rfl : nc_2 = 0 := z_2
  obtain ⟨h_2, e_2⟩ : ∃ hh, T_2.heap = hh := ⟨_, rfl⟩
  rw [e_2] at hQ_2
  obtain ⟨rfl, N_2q, sm_2⟩ := hQ_2
  have N_2 : Fr n0 L_2 := by rw [l_2]; exact Fr.app N_1 N_2q
  refine GoS.st (fun _ kk => st_2.trans kk) ?_
  rw [sm_2] at e_2
  show GoS p e below s _ _ _ _ _ T_2 (mkF m 15 #[.val (.ref a), .unset] [(.int (1 : Int32))])
  refine GoS.st (fun _ => XS.sipush X_2.here hx rfl (hb hby d7_15)) ?_
  show GoS p e below s _ _ _ _ _ T_2 (mkF m 18 #[.val (.ref a), .unset] [(.int (1024 : Int32)), (.int (1 : Int32))])
  refine GoS.st (fun _ => XS.icmpYes X_2.here hx rfl (pc0 := 18) (pc' := 23) rfl (hb hby d7_18) rfl (flt (by decide : ¬ ((1024 : Int32) < (1 : Int32)))).2.2.2 (by decide) (by decide)) ?_
  show GoS p e below s _ _ _ _ _ T_2 (mkF m 23 #[.val (.ref a), .unset] [])
  refine GoS.st (fun _ => XS.iconst X_2.here hx rfl (hb hby d7_23)) ?_
  show GoS p e below s _ _ _ _ _ T_2 (mkF m 24 #[.val (.ref a), .unset] [(.int (0 : Int32))])
  refine GoS.st (fun _ => XS.istoreN X_2.here hx rfl (hb hby d7_24) rfl (l' := #[.val (.ref a), .val (.int (0 : Int32))]) rfl) ?_
  show GoS p e below s _ _ _ _ _ T_2 (mkF m 25 #[.val (.ref a), .val (.int (0 : Int32))] [])
  refine GoS.st (fun _ => XS.iloadN X_2.here hx rfl (hb hby d7_25) rfl) ?_
  show GoS p e below s _ _ _ _ _ T_2 (mkF m 26 #[.val (.ref a), .val (.int (0 : Int32))] [(.int (0 : Int32))])
  refine GoS.st (fun _ => XS.aloadN X_2.here hx rfl (hb hby d7_26) rfl rfl) ?_
  show GoS p e below s _ _ _ _ _ T_2 (mkF m 27 #[.val (.ref a), .val (.int (0 : Int32))] [(.ref a), (.int (0 : Int32))])
  obtain ⟨cq_3, kq_3, q_3a, q_3b, q_3c⟩ := isOf hZ e_2 E_a
  obtain ⟨_, _, ⟨T_3, L_3, kc_3, nc_3⟩, -, X_3, ⟨Lc_3, hQ_3, l_3, y_3, z_3⟩, st_3⟩ := X_2.virtualBack hx (y := (⟨"java/lang/String", "length", "()I"⟩ : MethodName)) (z := (⟨"java/lang/String", "length", "()I"⟩ : MethodName)) hown (mvT hZ (hw _ (List.mem_of_getElem? (i := 40) rfl))) (mvT hZ (hw _ (List.mem_of_getElem? (i := 41) rfl))) (notFace_of_selects (args := #[]) (mvT hZ (hw _ (List.mem_of_getElem? (i := 43) rfl)))) (mvT hZ (hw _ (List.mem_of_getElem? (i := 43) rfl))) (mvT hZ (hw _ (List.mem_of_getElem? (i := 42) rfl))) (by decide) (backOf (W := 1) (rmLen1 l Z a0 hw [] a cs d kd [(.int (95 : Int32))] h0 n0 Z0 S_COMPACT_STRINGS hcs E_a F_coder_a F_value_a V_d) hZ (hw _ (List.mem_of_getElem? (i := 44) rfl)) (hw _ (List.mem_of_getElem? (i := 8) rfl)) (by decide) (by decide)) q_3a q_3c (g := (mkF m 27 #[.val (.ref a), .val (.int (0 : Int32))] [(.ref a), (.int (0 : Int32))])) rfl (by rw [hml]; rfl) (Steps.refl _) (argsL := []) (rest := [(.int (0 : Int32))]) (lenOf pd_11 rfl) rfl (by show 2 * 0 + _ ≤ _; exact Nat.le_of_eq rfl) (hb hby d7_27) (fun _ _ => ⟨rfl, e_2, (by decide : 0 + 0 ≤ _), (by decide : 0 + 0 ≤ _)⟩)
  dsimp only [Pt.U, Pt.locs, Pt.cells, Pt.slots] at X_3 l_3 y_3 z_3 st_3 hQ_3
  obtain rfl : kc_3 = 0 := y_3
  obtain rfl : nc_3 = 0 := z_3
  obtain ⟨h_3, e_3⟩ : ∃ hh, T_3.heap = hh := ⟨_, rfl⟩
  rw [e_3] at hQ_3
  obtain ⟨rfl, N_3q, sm_3⟩ := hQ_3
  have N_3 : Fr n0 L_3 := by rw [l_3]; exact Fr.app N_2 N_3q
  refine GoS.st (fun _ kk => st_3.trans kk) ?_
  rw [sm_3] at e_3
  show GoS p e below s _ _ _ _ _ T_3 (mkF m 30 #[.val (.ref a), .val (.int (0 : Int32))] [(.int (1 : Int32)), (.int (0 : Int32))])
  refine GoS.st (fun _ => XS.icmpNo X_3.here hx rfl (hb hby d7_30) rfl (tlt (by decide : (0 : Int32) < (1 : Int32))).2.1) ?_
  show GoS p e below s _ _ _ _ _ T_3 (mkF m 33 #[.val (.ref a), .val (.int (0 : Int32))] [])
  refine GoS.st (fun _ => XS.aloadN X_3.here hx rfl (hb hby d7_33) rfl rfl) ?_
  show GoS p e below s _ _ _ _ _ T_3 (mkF m 34 #[.val (.ref a), .val (.int (0 : Int32))] [(.ref a)])
  refine GoS.st (fun _ => XS.iloadN X_3.here hx rfl (hb hby d7_34) rfl) ?_
  show GoS p e below s _ _ _ _ _ T_3 (mkF m 35 #[.val (.ref a), .val (.int (0 : Int32))] [(.int (0 : Int32)), (.ref a)])
  obtain ⟨cq_4, kq_4, q_4a, q_4b, q_4c⟩ := isOf hZ e_3 E_a
  obtain ⟨_, _, ⟨T_4, L_4, kc_4, nc_4⟩, -, X_4, ⟨Lc_4, hQ_4, l_4, y_4, z_4⟩, st_4⟩ := X_3.virtualBack hx (y := (⟨"java/lang/String", "charAt", "(I)C"⟩ : MethodName)) (z := (⟨"java/lang/String", "charAt", "(I)C"⟩ : MethodName)) hown (mvT hZ (hw _ (List.mem_of_getElem? (i := 50) rfl))) (mvT hZ (hw _ (List.mem_of_getElem? (i := 51) rfl))) (notFace_of_selects (args := #[]) (mvT hZ (hw _ (List.mem_of_getElem? (i := 53) rfl)))) (mvT hZ (hw _ (List.mem_of_getElem? (i := 53) rfl))) (mvT hZ (hw _ (List.mem_of_getElem? (i := 52) rfl))) (by decide) (backOf (W := 0) (rmCa95 l Z a0 hw [] a cs d kd fm h0 n0 Z0 S_COMPACT_STRINGS hcs S_SIOOBE_FORMATTER rf_fm E_a F_coder_a F_value_a V_d) hZ (hw _ (List.mem_of_getElem? (i := 54) rfl)) (hw _ (List.mem_of_getElem? (i := 8) rfl)) (by decide) (by decide)) q_4a q_4c (g := (mkF m 35 #[.val (.ref a), .val (.int (0 : Int32))] [(.int (0 : Int32)), (.ref a)])) rfl (by rw [hml]; rfl) (Steps.refl _) (argsL := [(.int (0 : Int32))]) (rest := []) (lenOf pd_13 rfl) rfl (by show 2 * 0 + _ ≤ _; exact Nat.le_of_eq rfl) (hb hby d7_35) (fun _ _ => ⟨rfl, e_3, (by decide : 0 + 0 ≤ _), (by decide : 0 + 0 ≤ _)⟩)
  dsimp only [Pt.U, Pt.locs, Pt.cells, Pt.slots] at X_4 l_4 y_4 z_4 st_4 hQ_4
  obtain rfl : kc_4 = 0 := y_4
  obtain rfl : nc_4 = 0 := z_4
  obtain ⟨h_4, e_4⟩ : ∃ hh, T_4.heap = hh := ⟨_, rfl⟩
  rw [e_4] at hQ_4
  obtain ⟨rfl, N_4q, sm_4⟩ := hQ_4
  have N_4 : Fr n0 L_4 := by rw [l_4]; exact Fr.app N_3 N_4q
  refine GoS.st (fun _ kk => st_4.trans kk) ?_
  rw [sm_4] at e_4
  show GoS p e below s _ _ _ _ _ T_4 (mkF m 38 #[.val (.ref a), .val (.int (0 : Int32))] [(.int (95 : Int32))])
  obtain ⟨_, _, ⟨T_5, L_5, kc_5, nc_5⟩, -, X_5, sn_5, gg_5, ⟨Lc_5, hQ_5, l_5, y_5, z_5, CH_5⟩, st_5⟩ := callSS X_4 hx (y := (⟨"com/example/contextwire/contextwire/RequestId", "isIdChar", "(C)Z"⟩ : MethodName)) hown (mvT hZ (hw _ (List.mem_of_getElem? (i := 71) rfl))) (mvT hZ (hw _ (List.mem_of_getElem? (i := 72) rfl))) (mvT hZ (hw _ (List.mem_of_getElem? (i := 4) rfl))) (mvT hZ (hw _ (List.mem_of_getElem? (i := 73) rfl))) (by decide) (backOfSH (s := s) (vm0 := s.vm) (W := 0) (rmId95 l Z a0 hw [] cs h0 n0 Z0 S_COMPACT_STRINGS hcs) hZ (hw _ (List.mem_of_getElem? (i := 73) rfl)) (hw _ (List.mem_of_getElem? (i := 4) rfl)) (by decide) (by decide) hEL HE0.chv) (g := (mkF m 38 #[.val (.ref a), .val (.int (0 : Int32))] [(.int (95 : Int32))])) rfl (by rw [hml]; rfl) (argsL := [(.int (95 : Int32))]) (rest := []) (lenOf pd_0 rfl) rfl (by show 2 * 0 + _ ≤ _; exact Nat.le_of_eq rfl) (hb hby d7_38) (fun _ _ => ⟨rfl, e_4, (by decide : 0 + 2 ≤ _), (by decide : 0 + 36 ≤ _)⟩)
  dsimp only [Pt.U, Pt.locs, Pt.cells, Pt.slots] at X_5 l_5 y_5 z_5 st_5 hQ_5
  obtain rfl : kc_5 = 2 := y_5
  obtain rfl : nc_5 = 36 := z_5
  dsimp only [Pt.U, Pt.locs, Pt.cells, Pt.slots] at sn_5 gg_5 CH_5
  obtain ⟨X_5, HE_5, hZ, hown⟩ := OwnH.call HE0 e_4 X_5 sn_5 gg_5 hZ hown CH_5
  obtain ⟨h_5, e_5⟩ : ∃ hh, T_5.heap = hh := ⟨_, rfl⟩
  rw [e_5] at hQ_5 HE_5 CH_5
  obtain ⟨rfl, N_5q, K_5⟩ := hQ_5
  have N_5 : Fr n0 L_5 := by rw [l_5]; exact Fr.app N_4 N_5q
  refine GoS.st (fun _ kk => st_5.trans kk) ?_
  have KK_5 : Keep h0 h_5 [] := (Keep.refl h0 []).trans K_5 all0
  have z_5q : n0 ≤ h_5.size := Nat.le_trans Z0 K_5.1
  have ns_5 : ∀ x ∈ ([] : List Addr), ∀ cell : Cell, h0[x]? = some cell → cell.vm.isStatics = false := all0
  show GoS p e below s _ _ _ _ _ T_5 (mkF m 41 #[.val (.ref a), .val (.int (0 : Int32))] [(.int (1 : Int32))])
  refine GoS.st (fun _ => XS.ifYes X_5.here hx rfl (pc0 := 41) (pc' := 46) rfl (hb hby d7_41) rfl ((if0 _ _).trans (feq (by decide : ¬ ((1 : Int32) = (0 : Int32)))).2) (by decide) (by decide)) ?_
  show GoS p e below s _ _ _ _ _ T_5 (mkF m 46 #[.val (.ref a), .val (.int (0 : Int32))] [])
  refine GoS.st (fun _ => XS.iinc X_5.here hx rfl (hb hby d7_46) rfl (l' := #[.val (.ref a), .val (.int ((0 : Int32) + (1 : Int32)))]) rfl) ?_
  show GoS p e below s _ _ _ _ _ T_5 (mkF m 49 #[.val (.ref a), .val (.int ((0 : Int32) + (1 : Int32)))] [])
  rw [show ((0 : Int32) + (1 : Int32)) = (1 : Int32) from by decide]
  show GoS p e below s _ _ _ _ _ T_5 (mkF m 49 #[.val (.ref a), .val (.int (1 : Int32))] [])
  refine GoS.st (fun _ => XS.goto X_5.here hx rfl (pc0 := 49) (pc' := 25) rfl (hb hby d7_49) (by decide) (by decide)) ?_
  show GoS p e below s _ _ _ _ _ T_5 (mkF m 25 #[.val (.ref a), .val (.int (1 : Int32))] [])
  refine GoS.st (fun _ => XS.iloadN X_5.here hx rfl (hb hby d7_25) rfl) ?_
  show GoS p e below s _ _ _ _ _ T_5 (mkF m 26 #[.val (.ref a), .val (.int (1 : Int32))] [(.int (1 : Int32))])
  refine GoS.st (fun _ => XS.aloadN X_5.here hx rfl (hb hby d7_26) rfl rfl) ?_
  show GoS p e below s _ _ _ _ _ T_5 (mkF m 27 #[.val (.ref a), .val (.int (1 : Int32))] [(.ref a), (.int (1 : Int32))])
  have f_7 := (own_sta_keep S_COMPACT_STRINGS K_5 ns_5)
  have f_8 := (E_a.keep K_5)
  have f_9 := (F_coder_a.keep K_5 nin0)
  have f_10 := (F_value_a.keep K_5 nin0)
  have f_11 := (V_d.keep K_5 nin0)
  obtain ⟨cq_6, kq_6, q_6a, q_6b, q_6c⟩ := isOf hZ e_5 f_8
  obtain ⟨_, _, ⟨T_6, L_6, kc_6, nc_6⟩, -, X_6, ⟨Lc_6, hQ_6, l_6, y_6, z_6⟩, st_6⟩ := X_5.virtualBack hx (y := (⟨"java/lang/String", "length", "()I"⟩ : MethodName)) (z := (⟨"java/lang/String", "length", "()I"⟩ : MethodName)) hown (mvT hZ (hw _ (List.mem_of_getElem? (i := 40) rfl))) (mvT hZ (hw _ (List.mem_of_getElem? (i := 41) rfl))) (notFace_of_selects (args := #[]) (mvT hZ (hw _ (List.mem_of_getElem? (i := 43) rfl)))) (mvT hZ (hw _ (List.mem_of_getElem? (i := 43) rfl))) (mvT hZ (hw _ (List.mem_of_getElem? (i := 42) rfl))) (by decide) (backOf (W := 1) (rmLen1 l Z a0 hw [] a cs d kd [(.int (95 : Int32))] h_5 n0 z_5q f_7 hcs f_8 f_9 f_10 f_11) hZ (hw _ (List.mem_of_getElem? (i := 44) rfl)) (hw _ (List.mem_of_getElem? (i := 8) rfl)) (by decide) (by decide)) q_6a q_6c (g := (mkF m 27 #[.val (.ref a), .val (.int (1 : Int32))] [(.ref a), (.int (1 : Int32))])) rfl (by rw [hml]; rfl) (Steps.refl _) (argsL := []) (rest := [(.int (1 : Int32))]) (lenOf pd_11 rfl) rfl (by show 2 * 0 + _ ≤ _; exact Nat.le_of_eq rfl) (hb hby d7_27) (fun _ _ => ⟨rfl, e_5, (by decide : 2 + 0 ≤ _), (by decide : 36 + 0 ≤ _)⟩)
  dsimp only [Pt.U, Pt.locs, Pt.cells, Pt.slots] at X_6 l_6 y_6 z_6 st_6 hQ_6
  obtain rfl : kc_6 = 2 := y_6
  obtain rfl : nc_6 = 36 := z_6
  obtain ⟨h_6, e_6⟩ : ∃ hh, T_6.heap = hh := ⟨_, rfl⟩
  rw [e_6] at hQ_6
  obtain ⟨rfl, N_6q, sm_6⟩ := hQ_6
  have N_6 : Fr n0 L_6 := by rw [l_6]; exact Fr.app N_5 N_6q
  refine GoS.st (fun _ kk => st_6.trans kk) ?_
  rw [sm_6] at e_6
  show GoS p e below s _ _ _ _ _ T_6 (mkF m 30 #[.val (.ref a), .val (.int (1 : Int32))] [(.int (1 : Int32)), (.int (1 : Int32))])
  refine GoS.st (fun _ => XS.icmpYes X_6.here hx rfl (pc0 := 30) (pc' := 52) rfl (hb hby d7_30) rfl (flt (by decide : ¬ ((1 : Int32) < (1 : Int32)))).2.1 (by decide) (by decide)) ?_
  show GoS p e below s _ _ _ _ _ T_6 (mkF m 52 #[.val (.ref a), .val (.int (1 : Int32))] [])
  refine GoS.st (fun _ => XS.iconst X_6.here hx rfl (hb hby d7_52)) ?_
  show GoS p e below s _ _ _ _ _ T_6 (mkF m 53 #[.val (.ref a), .val (.int (1 : Int32))] [(.int (1 : Int32))])
  exact GoS.retZ hZ hEL HE_5 e_6 X_6 hx hlk Bd.returns (hb hby d7_53) rfl (by rw [e_6]; exact ⟨rfl, N_6, KK_5⟩) (by decide) (by decide)
theorem ef_rmLc35 (m : MethodId) (d : Addr) : entryFrame m #[(.ref d), (.int (0 : Int32))] 2 = mkF m 0 #[.val (.ref d), .val (.int (0 : Int32))] [] := by first | (simp [entryFrame, mkF, argsToLocals, Value.category]; done) | rfl
def QrmLc35 (Z : State) (d : Addr) (kd : ClassId) (fm : Value) (h0 : Heap) (n0 : Nat) (rV : Option Value) (hE : Heap) (LE : List Loc) : Prop := rV = some (.int (35 : Int32)) ∧ Fr n0 LE ∧ hE = h0
set_option maxRecDepth 65536 in
set_option maxHeartbeats 40000000 in
theorem rmLc35 (l : Launch) (Z : State) (a0 : Array Value) (hw : ∀ d ∈ tables_1, d.before a0 Z = true) (ws : List Jvm.Cond) (d : Addr) (kd : ClassId) (fm : Value) (h0 : Heap) (n0 : Nat) (Z0 : n0 ≤ h0.size) (S_SIOOBE_FORMATTER : Sta Z h0 "jdk/internal/util/Preconditions" "SIOOBE_FORMATTER" "Ljava/util/function/BiFunction;" fm) (rf_fm : fm.isRef = true) (V_d : Arv Z h0 d kd .byte (1 : Int32) [(.int (35 : Int32))] (.int (0 : Int32))) :
    MetFree l (⟨"java/lang/StringLatin1", "charAt", "([BI)C"⟩ : MethodName) (head1 (Jvm.Cond.code (⟨"java/lang/StringLatin1", "charAt", "([BI)C"⟩ : MethodName) jdk_43_method_2_code 2 (some .char) :: ws) ({ frames := 2, cells := 0, slots := 0, locals := 27 } : Room)) (fun aA UA => aA = #[(.ref d), (.int (0 : Int32))] ∧ Z.Warmed39 UA.vm ∧ UA.heap = h0) (fun _ _ _ _ _ => True) (fun _ UA oA UB => ∃ rV LE, oA = .returned rV ∧ QrmLc35 Z d kd fm h0 n0 rV UB.heap LE ∧ FrameEnd UA oA UB LE ({ frames := 2, cells := 0, slots := 0, locals := 27 } : Room).cells ({ frames := 2, cells := 0, slots := 0, locals := 27 } : Room).slots) := by
  refine MetFree.of_bodySF (plainFor_of_name pn_0) hisR ?_
  intro p e s m args below meth c s₁ Bd hml0 hP hK
  obtain ⟨rfl, hZ, hh⟩ := hP
  have hx := Bd.exec
  have hby := Bd.bytes
  have hml : c.maxLocals = 2 := hml0
  have hown : s.vm.findClass "java/lang/StringLatin1" = some m.cls := findClass_of_methodNamed Bd.named
  have hnm := (name_of_methodNamed Bd.named Bd.method).1
  have hlk := Bd.notSynchronized
  have X0 : Stand p l e ({ frames := 2, cells := 0, slots := 0, locals := 27 } : Room) s m #[(.ref d), (.int (0 : Int32))] below meth c s₁ [] 0 0 := Stand.of_body Bd
  have e0 : s₁.heap = h0 := by rw [← hh, Bd.state]; rfl
  have N0 := Fr.nil n0
  show Go p e below s (QrmLc35 Z d kd fm h0 n0) ({ frames := 2, cells := 0, slots := 0, locals := 27 } : Room).cells ({ frames := 2, cells := 0, slots := 0, locals := 27 } : Room).slots s₁ (entryFrame m #[(.ref d), (.int (0 : Int32))] 2)
  refine Go.eq (ef_rmLc35 m d) ?_
  show Go p e below s _ _ _ s₁ (mkF m 0 #[.val (.ref d), .val (.int (0 : Int32))] [])
  refine Go.st (fun _ => XS.iloadN X0.here hx rfl (hb hby d13_0) rfl) ?_
  show Go p e below s _ _ _ s₁ (mkF m 1 #[.val (.ref d), .val (.int (0 : Int32))] [(.int (0 : Int32))])
  refine Go.st (fun _ => XS.aloadN X0.here hx rfl (hb hby d13_1) rfl rfl) ?_
  show Go p e below s _ _ _ s₁ (mkF m 2 #[.val (.ref d), .val (.int (0 : Int32))] [(.ref d), (.int (0 : Int32))])
  obtain ⟨cl_1, Ar_1, q_1, S_1, M_1, H_1, G_1⟩ := id V_d
  refine Go.st (fun tG => X0.arraylength hx (by rw [e0]; exact Ar_1.1) (State.isArrayOf_alike hZ.alike Ar_1.2.1) (g := (mkF m 2 #[.val (.ref d), .val (.int (0 : Int32))] [(.ref d), (.int (0 : Int32))])) rfl rfl (hb hby d13_2) tG) ?_
  rw [len_of S_1 M_1]
  show Go p e below s _ _ _ s₁ (mkF m 3 #[.val (.ref d), .val (.int (0 : Int32))] [(.int (1 : Int32)), (.int (0 : Int32))])
  obtain ⟨_, _, ⟨T_2, L_2, kc_2, nc_2⟩, -, X_2, ⟨Lc_2, hQ_2, l_2, y_2, z_2⟩, st_2⟩ := Jvm.LawKit.callS X0 hx (y := (⟨"java/lang/String", "checkIndex", "(II)V"⟩ : MethodName)) hown (mvT hZ (hw _ (List.mem_of_getElem? (i := 63) rfl))) (mvT hZ (hw _ (List.mem_of_getElem? (i := 64) rfl))) (mvT hZ (hw _ (List.mem_of_getElem? (i := 8) rfl))) (mvT hZ (hw _ (List.mem_of_getElem? (i := 65) rfl))) (by decide) (backOf (W := 0) (rmChk l Z a0 hw [] fm h0 n0 Z0 S_SIOOBE_FORMATTER rf_fm) hZ (hw _ (List.mem_of_getElem? (i := 65) rfl)) (hw _ (List.mem_of_getElem? (i := 8) rfl)) (by decide) (by decide)) (g := (mkF m 3 #[.val (.ref d), .val (.int (0 : Int32))] [(.int (1 : Int32)), (.int (0 : Int32))])) rfl (by rw [hml]; rfl) (argsL := [(.int (0 : Int32)), (.int (1 : Int32))]) (rest := []) (lenOf pd_4 rfl) rfl (by show 2 * 0 + _ ≤ _; exact Nat.le_of_eq rfl) (hb hby d13_3) (fun _ _ => ⟨rfl, e0, (by decide : 0 + 0 ≤ _), (by decide : 0 + 0 ≤ _)⟩)
  dsimp only [Pt.U, Pt.locs, Pt.cells, Pt.slots] at X_2 l_2 y_2 z_2 st_2 hQ_2
  obtain rfl : kc_2 = 0 := y_2
  obtain rfl : nc_2 = 0 := z_2
  obtain ⟨h_2, e_2⟩ : ∃ hh, T_2.heap = hh := ⟨_, rfl⟩
  rw [e_2] at hQ_2
  obtain ⟨rfl, N_2q, sm_2⟩ := hQ_2
  have N_2 : Fr n0 L_2 := by rw [l_2]; exact Fr.app N0 N_2q
  refine Go.st st_2 ?_
  rw [sm_2] at e_2
  show Go p e below s _ _ _ T_2 (mkF m 6 #[.val (.ref d), .val (.int (0 : Int32))] [])
  refine Go.st (fun _ => XS.aloadN X_2.here hx rfl (hb hby d13_6) rfl rfl) ?_
  show Go p e below s _ _ _ T_2 (mkF m 7 #[.val (.ref d), .val (.int (0 : Int32))] [(.ref d)])
  refine Go.st (fun _ => XS.iloadN X_2.here hx rfl (hb hby d13_7) rfl) ?_
  show Go p e below s _ _ _ T_2 (mkF m 8 #[.val (.ref d), .val (.int (0 : Int32))] [(.int (0 : Int32)), (.ref d)])
  obtain ⟨cl_3, Ar_3, q_3, S_3, M_3, H_3, G_3⟩ := id V_d
  have hin_3 : ¬ ((0 : Int32) < 0 ∨ cl_3.slots.size ≤ ((0 : Int32)).toNatClampNeg) := inb_of S_3 ⟨by decide, by decide⟩
  have hat_3 : cl_3.slots[((0 : Int32)).toNatClampNeg]? = some (.int (35 : Int32)) := H_3.at hin_3 rfl
  refine Go.st (fun tG => X_2.baloadBytes hx (j := (0 : Int32)) (v := (.int (35 : Int32))) (by rw [e_2]; exact Ar_3.1) (State.isArrayOf_alike hZ.alike Ar_3.2.1) Ar_3.2.2 hin_3 hat_3 (g := (mkF m 8 #[.val (.ref d), .val (.int (0 : Int32))] [(.int (0 : Int32)), (.ref d)])) rfl rfl (hb hby d13_8) tG) ?_
  show Go p e below s _ _ _ T_2 (mkF m 9 #[.val (.ref d), .val (.int (0 : Int32))] [(.int (35 : Int32))])
  refine Go.st (fun _ => XS.sipush X_2.here hx rfl (hb hby d13_9)) ?_
  show Go p e below s _ _ _ T_2 (mkF m 12 #[.val (.ref d), .val (.int (0 : Int32))] [(.int (255 : Int32)), (.int (35 : Int32))])
  refine Go.st (fun _ => XS.iand X_2.here hx rfl (hb hby d13_12) rfl) ?_
  show Go p e below s _ _ _ T_2 (mkF m 13 #[.val (.ref d), .val (.int (0 : Int32))] [(.int ((35 : Int32) &&& (255 : Int32)))])
  rw [show ((35 : Int32) &&& (255 : Int32)) = (35 : Int32) from by decide]
  show Go p e below s _ _ _ T_2 (mkF m 13 #[.val (.ref d), .val (.int (0 : Int32))] [(.int (35 : Int32))])
  refine Go.st (fun _ => XS.i2c X_2.here hx rfl (hb hby d13_13) rfl) ?_
  show Go p e below s _ _ _ T_2 (mkF m 14 #[.val (.ref d), .val (.int (0 : Int32))] [(.int ((35 : Int32).toUInt32.toUInt16.toUInt32.toInt32))])
  rw [show ((35 : Int32).toUInt32.toUInt16.toUInt32.toInt32) = (35 : Int32) from by decide]
  show Go p e below s _ _ _ T_2 (mkF m 14 #[.val (.ref d), .val (.int (0 : Int32))] [(.int (35 : Int32))])
  exact Go.retC X_2 hx hlk Bd.returns (hb hby d13_14) rfl (by rw [e_2]; exact ⟨rfl, N_2, rfl⟩) (by decide) (by decide)
theorem ef_rmCa35 (m : MethodId) (a : Addr) : entryFrame m #[(.ref a), (.int (0 : Int32))] 2 = mkF m 0 #[.val (.ref a), .val (.int (0 : Int32))] [] := by first | (simp [entryFrame, mkF, argsToLocals, Value.category]; done) | rfl
def QrmCa35 (Z : State) (a : Addr) (cs : Int32) (d : Addr) (kd : ClassId) (fm : Value) (h0 : Heap) (n0 : Nat) (rV : Option Value) (hE : Heap) (LE : List Loc) : Prop := rV = some (.int (35 : Int32)) ∧ Fr n0 LE ∧ hE = h0
set_option maxRecDepth 65536 in
set_option maxHeartbeats 40000000 in
theorem rmCa35 (l : Launch) (Z : State) (a0 : Array Value) (hw : ∀ d ∈ tables_1, d.before a0 Z = true) (ws : List Jvm.Cond) (a : Addr) (cs : Int32) (d : Addr) (kd : ClassId) (fm : Value) (h0 : Heap) (n0 : Nat) (Z0 : n0 ≤ h0.size) (S_COMPACT_STRINGS : Sta Z h0 "java/lang/String" "COMPACT_STRINGS" "Z" (.int cs)) (hcs : ¬ (cs = (0 : Int32))) (S_SIOOBE_FORMATTER : Sta Z h0 "jdk/internal/util/Preconditions" "SIOOBE_FORMATTER" "Ljava/util/function/BiFunction;" fm) (rf_fm : fm.isRef = true) (E_a : Exa Z h0 a "java/lang/String") (F_coder_a : Fld Z h0 a "java/lang/String" "coder" "B" (.int (0 : Int32))) (F_value_a : Fld Z h0 a "java/lang/String" "value" "[B" (.ref d)) (V_d : Arv Z h0 d kd .byte (1 : Int32) [(.int (35 : Int32))] (.int (0 : Int32))) :
    MetFree l (⟨"java/lang/String", "charAt", "(I)C"⟩ : MethodName) (head1 (Jvm.Cond.code (⟨"java/lang/String", "charAt", "(I)C"⟩ : MethodName) jdk_42_method_56_code 2 (some .char) :: ws) ({ frames := 3, cells := 0, slots := 0, locals := 40 } : Room)) (fun aA UA => aA = #[(.ref a), (.int (0 : Int32))] ∧ Z.Warmed39 UA.vm ∧ UA.heap = h0) (fun _ _ _ _ _ => True) (fun _ UA oA UB => ∃ rV LE, oA = .returned rV ∧ QrmCa35 Z a cs d kd fm h0 n0 rV UB.heap LE ∧ FrameEnd UA oA UB LE ({ frames := 3, cells := 0, slots := 0, locals := 40 } : Room).cells ({ frames := 3, cells := 0, slots := 0, locals := 40 } : Room).slots) := by
  refine MetFree.of_bodySF (plainFor_of_name pn_1) hisR ?_
  intro p e s m args below meth c s₁ Bd hml0 hP hK
  obtain ⟨rfl, hZ, hh⟩ := hP
  have hx := Bd.exec
  have hby := Bd.bytes
  have hml : c.maxLocals = 2 := hml0
  have hown : s.vm.findClass "java/lang/String" = some m.cls := findClass_of_methodNamed Bd.named
  have hnm := (name_of_methodNamed Bd.named Bd.method).1
  have hlk := Bd.notSynchronized
  have X0 : Stand p l e ({ frames := 3, cells := 0, slots := 0, locals := 40 } : Room) s m #[(.ref a), (.int (0 : Int32))] below meth c s₁ [] 0 0 := Stand.of_body Bd
  have e0 : s₁.heap = h0 := by rw [← hh, Bd.state]; rfl
  have N0 := Fr.nil n0
  show Go p e below s (QrmCa35 Z a cs d kd fm h0 n0) ({ frames := 3, cells := 0, slots := 0, locals := 40 } : Room).cells ({ frames := 3, cells := 0, slots := 0, locals := 40 } : Room).slots s₁ (entryFrame m #[(.ref a), (.int (0 : Int32))] 2)
  refine Go.eq (ef_rmCa35 m a) ?_
  show Go p e below s _ _ _ s₁ (mkF m 0 #[.val (.ref a), .val (.int (0 : Int32))] [])
  refine Go.st (fun _ => XS.aloadN X0.here hx rfl (hb hby d11_0) rfl rfl) ?_
  show Go p e below s _ _ _ s₁ (mkF m 1 #[.val (.ref a), .val (.int (0 : Int32))] [(.ref a)])
  obtain ⟨cq_1, kq_1, q_1a, q_1b, q_1c⟩ := isOf hZ e0 E_a
  obtain ⟨_, _, ⟨T_1, L_1, kc_1, nc_1⟩, -, X_1, ⟨Lc_1, hQ_1, l_1, y_1, z_1⟩, st_1⟩ := X0.virtualBack hx (y := (⟨"java/lang/String", "isLatin1", "()Z"⟩ : MethodName)) (z := (⟨"java/lang/String", "isLatin1", "()Z"⟩ : MethodName)) hown (mvT hZ (hw _ (List.mem_of_getElem? (i := 55) rfl))) (mvT hZ (hw _ (List.mem_of_getElem? (i := 56) rfl))) (notFace_of_selects (args := #[]) (mvT hZ (hw _ (List.mem_of_getElem? (i := 58) rfl)))) (mvT hZ (hw _ (List.mem_of_getElem? (i := 58) rfl))) (mvT hZ (hw _ (List.mem_of_getElem? (i := 57) rfl))) (by decide) (backOf (W := 0) (rmLat l Z a0 hw [] a cs h0 n0 Z0 S_COMPACT_STRINGS hcs F_coder_a) hZ (hw _ (List.mem_of_getElem? (i := 59) rfl)) (hw _ (List.mem_of_getElem? (i := 8) rfl)) (by decide) (by decide)) q_1a q_1c (g := (mkF m 1 #[.val (.ref a), .val (.int (0 : Int32))] [(.ref a)])) rfl (by rw [hml]; rfl) (Steps.refl _) (argsL := []) (rest := []) (lenOf pd_5 rfl) rfl (by show 2 * 0 + _ ≤ _; exact Nat.le_of_eq rfl) (hb hby d11_1) (fun _ _ => ⟨rfl, e0, (by decide : 0 + 0 ≤ _), (by decide : 0 + 0 ≤ _)⟩)
  dsimp only [Pt.U, Pt.locs, Pt.cells, Pt.slots] at X_1 l_1 y_1 z_1 st_1 hQ_1
  obtain rfl : kc_1 = 0 := y_1
  obtain rfl : nc_1 = 0 := z_1
  obtain ⟨h_1, e_1⟩ : ∃ hh, T_1.heap = hh := ⟨_, rfl⟩
  rw [e_1] at hQ_1
  obtain ⟨rfl, N_1q, sm_1⟩ := hQ_1
  have N_1 : Fr n0 L_1 := by rw [l_1]; exact Fr.app N0 N_1q
  refine Go.st (fun _ kk => st_1.trans kk) ?_
  rw [sm_1] at e_1
  show Go p e below s _ _ _ T_1 (mkF m 4 #[.val (.ref a), .val (.int (0 : Int32))] [(.int (1 : Int32))])
  refine Go.st (fun _ => XS.ifNo X_1.here hx rfl (hb hby d11_4) rfl ((if0 _ _).trans (feq (by decide : ¬ ((1 : Int32) = (0 : Int32)))).1)) ?_
  show Go p e below s _ _ _ T_1 (mkF m 7 #[.val (.ref a), .val (.int (0 : Int32))] [])
  refine Go.st (fun _ => XS.aloadN X_1.here hx rfl (hb hby d11_7) rfl rfl) ?_
  show Go p e below s _ _ _ T_1 (mkF m 8 #[.val (.ref a), .val (.int (0 : Int32))] [(.ref a)])
  obtain ⟨T_2, X_2, e_2, st_2⟩ := getF X_1 hx hZ hown (host := "") (Or.inl (hw _ (List.mem_of_getElem? (i := 28) rfl))) Via.refl e_1 F_value_a (g := (mkF m 8 #[.val (.ref a), .val (.int (0 : Int32))] [(.ref a)])) rfl rfl (hb hby d11_8)
  refine Go.st st_2 ?_
  show Go p e below s _ _ _ T_2 (mkF m 11 #[.val (.ref a), .val (.int (0 : Int32))] [(.ref d)])
  refine Go.st (fun _ => XS.iloadN X_2.here hx rfl (hb hby d11_11) rfl) ?_
  show Go p e below s _ _ _ T_2 (mkF m 12 #[.val (.ref a), .val (.int (0 : Int32))] [(.int (0 : Int32)), (.ref d)])
  obtain ⟨_, _, ⟨T_3, L_3, kc_3, nc_3⟩, -, X_3, ⟨Lc_3, hQ_3, l_3, y_3, z_3⟩, st_3⟩ := Jvm.LawKit.callS X_2 hx (y := (⟨"java/lang/StringLatin1", "charAt", "([BI)C"⟩ : MethodName)) hown (mvT hZ (hw _ (List.mem_of_getElem? (i := 60) rfl))) (mvT hZ (hw _ (List.mem_of_getElem? (i := 61) rfl))) (mvT hZ (hw _ (List.mem_of_getElem? (i := 13) rfl))) (mvT hZ (hw _ (List.mem_of_getElem? (i := 62) rfl))) (by decide) (backOf (W := 0) (rmLc35 l Z a0 hw [] d kd fm h0 n0 Z0 S_SIOOBE_FORMATTER rf_fm V_d) hZ (hw _ (List.mem_of_getElem? (i := 62) rfl)) (hw _ (List.mem_of_getElem? (i := 13) rfl)) (by decide) (by decide)) (g := (mkF m 12 #[.val (.ref a), .val (.int (0 : Int32))] [(.int (0 : Int32)), (.ref d)])) rfl (by rw [hml]; rfl) (argsL := [(.ref d), (.int (0 : Int32))]) (rest := []) (lenOf pd_6 rfl) rfl (by show 2 * 0 + _ ≤ _; exact Nat.le_of_eq rfl) (hb hby d11_12) (fun _ _ => ⟨rfl, e_2, (by decide : 0 + 0 ≤ _), (by decide : 0 + 0 ≤ _)⟩)
  dsimp only [Pt.U, Pt.locs, Pt.cells, Pt.slots] at X_3 l_3 y_3 z_3 st_3 hQ_3
  obtain rfl : kc_3 = 0 := y_3
  obtain rfl : nc_3 = 0 := z_3
  obtain ⟨h_3, e_3⟩ : ∃ hh, T_3.heap = hh := ⟨_, rfl⟩
  rw [e_3] at hQ_3
  obtain ⟨rfl, N_3q, sm_3⟩ := hQ_3
  have N_3 : Fr n0 L_3 := by rw [l_3]; exact Fr.app N_1 N_3q
  refine Go.st st_3 ?_
  rw [sm_3] at e_3
  show Go p e below s _ _ _ T_3 (mkF m 15 #[.val (.ref a), .val (.int (0 : Int32))] [(.int (35 : Int32))])
  exact Go.retC X_3 hx hlk Bd.returns (hb hby d11_15) rfl (by rw [e_3]; exact ⟨rfl, N_3, rfl⟩) (by decide) (by decide)
theorem ef_rmCe35 (m : MethodId)  : entryFrame m #[(.int (35 : Int32))] 1 = mkF m 0 #[.val (.int (35 : Int32))] [] := by first | (simp [entryFrame, mkF, argsToLocals, Value.category]; done) | rfl
def QrmCe35 (Z : State)  (h0 : Heap) (n0 : Nat) (rV : Option Value) (hE : Heap) (LE : List Loc) : Prop := rV = some (.int (1 : Int32)) ∧ Fr n0 LE ∧ hE = h0
set_option maxRecDepth 65536 in
set_option maxHeartbeats 40000000 in
theorem rmCe35 (l : Launch) (Z : State) (a0 : Array Value) (hw : ∀ d ∈ tables_1, d.before a0 Z = true) (ws : List Jvm.Cond)  (h0 : Heap) (n0 : Nat) (Z0 : n0 ≤ h0.size) :
    MetFree l (⟨"java/lang/StringLatin1", "canEncode", "(I)Z"⟩ : MethodName) (head1 (Jvm.Cond.code (⟨"java/lang/StringLatin1", "canEncode", "(I)Z"⟩ : MethodName) jdk_43_method_4_code 1 (some .boolean) :: ws) ({ frames := 0, cells := 0, slots := 0, locals := 0 } : Room)) (fun aA UA => aA = #[(.int (35 : Int32))] ∧ Z.Warmed39 UA.vm ∧ UA.heap = h0) (fun _ _ _ _ _ => True) (fun _ UA oA UB => ∃ rV LE, oA = .returned rV ∧ QrmCe35 Z  h0 n0 rV UB.heap LE ∧ FrameEnd UA oA UB LE ({ frames := 0, cells := 0, slots := 0, locals := 0 } : Room).cells ({ frames := 0, cells := 0, slots := 0, locals := 0 } : Room).slots) := by
  refine MetFree.of_bodySF (plainFor_of_name pn_0) hisR ?_
  intro p e s m args below meth c s₁ Bd hml0 hP hK
  obtain ⟨rfl, hZ, hh⟩ := hP
  have hx := Bd.exec
  have hby := Bd.bytes
  have hml : c.maxLocals = 1 := hml0
  have hown : s.vm.findClass "java/lang/StringLatin1" = some m.cls := findClass_of_methodNamed Bd.named
  have hnm := (name_of_methodNamed Bd.named Bd.method).1
  have hlk := Bd.notSynchronized
  have X0 : Stand p l e ({ frames := 0, cells := 0, slots := 0, locals := 0 } : Room) s m #[(.int (35 : Int32))] below meth c s₁ [] 0 0 := Stand.of_body Bd
  have e0 : s₁.heap = h0 := by rw [← hh, Bd.state]; rfl
  have N0 := Fr.nil n0
  show Go p e below s (QrmCe35 Z  h0 n0) ({ frames := 0, cells := 0, slots := 0, locals := 0 } : Room).cells ({ frames := 0, cells := 0, slots := 0, locals := 0 } : Room).slots s₁ (entryFrame m #[(.int (35 : Int32))] 1)
  refine Go.eq (ef_rmCe35 m ) ?_
  show Go p e below s _ _ _ s₁ (mkF m 0 #[.val (.int (35 : Int32))] [])
  refine Go.st (fun _ => XS.iloadN X0.here hx rfl (hb hby d20_0) rfl) ?_
  show Go p e below s _ _ _ s₁ (mkF m 1 #[.val (.int (35 : Int32))] [(.int (35 : Int32))])
  refine Go.st (fun _ => XS.ifNo X0.here hx rfl (hb hby d20_1) rfl ((if0 _ _).trans (flt (by decide : ¬ ((35 : Int32) < (0 : Int32)))).1)) ?_
  show Go p e below s _ _ _ s₁ (mkF m 4 #[.val (.int (35 : Int32))] [])
  refine Go.st (fun _ => XS.iloadN X0.here hx rfl (hb hby d20_4) rfl) ?_
  show Go p e below s _ _ _ s₁ (mkF m 5 #[.val (.int (35 : Int32))] [(.int (35 : Int32))])
  refine Go.st (fun _ => XS.sipush X0.here hx rfl (hb hby d20_5)) ?_
  show Go p e below s _ _ _ s₁ (mkF m 8 #[.val (.int (35 : Int32))] [(.int (255 : Int32)), (.int (35 : Int32))])
  refine Go.st (fun _ => XS.icmpNo X0.here hx rfl (hb hby d20_8) rfl (flt (by decide : ¬ ((255 : Int32) < (35 : Int32)))).2.2.1) ?_
  show Go p e below s _ _ _ s₁ (mkF m 11 #[.val (.int (35 : Int32))] [])
  refine Go.st (fun _ => XS.iconst X0.here hx rfl (hb hby d20_11)) ?_
  show Go p e below s _ _ _ s₁ (mkF m 12 #[.val (.int (35 : Int32))] [(.int (1 : Int32))])
  refine Go.st (fun _ => XS.goto X0.here hx rfl (pc0 := 12) (pc' := 16) rfl (hb hby d20_12) (by decide) (by decide)) ?_
  show Go p e below s _ _ _ s₁ (mkF m 16 #[.val (.int (35 : Int32))] [(.int (1 : Int32))])
  exact Go.retZ X0 hx hlk Bd.returns (hb hby d20_16) rfl (by rw [e0]; exact ⟨rfl, N0, rfl⟩) (by decide) (by decide)
theorem ef_rmIc35 (m : MethodId) (d : Addr) : entryFrame m #[(.ref d), (.int (35 : Int32)), (.int (0 : Int32)), (.int (8 : Int32))] 6 = mkF m 0 #[.val (.ref d), .val (.int (35 : Int32)), .val (.int (0 : Int32)), .val (.int (8 : Int32)), .unset, .unset] [] := by first | (simp [entryFrame, mkF, argsToLocals, Value.category]; done) | rfl
def QrmIc35 (Z : State) (d : Addr) (kd : ClassId) (h0 : Heap) (n0 : Nat) (rV : Option Value) (hE : Heap) (LE : List Loc) : Prop := rV = some (.int (7 : Int32)) ∧ Fr n0 LE ∧ hE = h0
set_option maxRecDepth 65536 in
set_option maxHeartbeats 40000000 in
theorem rmIc35 (l : Launch) (Z : State) (a0 : Array Value) (hw : ∀ d ∈ tables_1, d.before a0 Z = true) (ws : List Jvm.Cond) (d : Addr) (kd : ClassId) (h0 : Heap) (n0 : Nat) (Z0 : n0 ≤ h0.size) (V_d : Arv Z h0 d kd .byte (8 : Int32) [(.int (43 : Int32)), (.int (47 : Int32)), (.int (61 : Int32)), (.int (45 : Int32)), (.int (124 : Int32)), (.int (46 : Int32)), (.int (95 : Int32)), (.int (35 : Int32))] (.int (0 : Int32))) :
    MetFree l (⟨"java/lang/StringLatin1", "indexOfChar", "([BIII)I"⟩ : MethodName) (head1 (Jvm.Cond.code (⟨"java/lang/StringLatin1", "indexOfChar", "([BIII)I"⟩ : MethodName) jdk_43_method_23_code 6 (some .int) :: ws) ({ frames := 0, cells := 0, slots := 0, locals := 0 } : Room)) (fun aA UA => aA = #[(.ref d), (.int (35 : Int32)), (.int (0 : Int32)), (.int (8 : Int32))] ∧ Z.Warmed39 UA.vm ∧ UA.heap = h0) (fun _ _ _ _ _ => True) (fun _ UA oA UB => ∃ rV LE, oA = .returned rV ∧ QrmIc35 Z d kd h0 n0 rV UB.heap LE ∧ FrameEnd UA oA UB LE ({ frames := 0, cells := 0, slots := 0, locals := 0 } : Room).cells ({ frames := 0, cells := 0, slots := 0, locals := 0 } : Room).slots) := by
  refine MetFree.of_bodySF (plainFor_of_name pn_0) hisR ?_
  intro p e s m args below meth c s₁ Bd hml0 hP hK
  obtain ⟨rfl, hZ, hh⟩ := hP
  have hx := Bd.exec
  have hby := Bd.bytes
  have hml : c.maxLocals = 6 := hml0
  have hown : s.vm.findClass "java/lang/StringLatin1" = some m.cls := findClass_of_methodNamed Bd.named
  have hnm := (name_of_methodNamed Bd.named Bd.method).1
  have hlk := Bd.notSynchronized
  have X0 : Stand p l e ({ frames := 0, cells := 0, slots := 0, locals := 0 } : Room) s m #[(.ref d), (.int (35 : Int32)), (.int (0 : Int32)), (.int (8 : Int32))] below meth c s₁ [] 0 0 := Stand.of_body Bd
  have e0 : s₁.heap = h0 := by rw [← hh, Bd.state]; rfl
  have N0 := Fr.nil n0
  show Go p e below s (QrmIc35 Z d kd h0 n0) ({ frames := 0, cells := 0, slots := 0, locals := 0 } : Room).cells ({ frames := 0, cells := 0, slots := 0, locals := 0 } : Room).slots s₁ (entryFrame m #[(.ref d), (.int (35 : Int32)), (.int (0 : Int32)), (.int (8 : Int32))] 6)
  refine Go.eq (ef_rmIc35 m d) ?_
  show Go p e below s _ _ _ s₁ (mkF m 0 #[.val (.ref d), .val (.int (35 : Int32)), .val (.int (0 : Int32)), .val (.int (8 : Int32)), .unset, .unset] [])
  refine Go.st (fun _ => XS.iloadN X0.here hx rfl (hb hby d23_0) rfl) ?_
  show Go p e below s _ _ _ s₁ (mkF m 1 #[.val (.ref d), .val (.int (35 : Int32)), .val (.int (0 : Int32)), .val (.int (8 : Int32)), .unset, .unset] [(.int (35 : Int32))])
  refine Go.st (fun _ => XS.i2b X0.here hx rfl (hb hby d23_1) rfl) ?_
  show Go p e below s _ _ _ s₁ (mkF m 2 #[.val (.ref d), .val (.int (35 : Int32)), .val (.int (0 : Int32)), .val (.int (8 : Int32)), .unset, .unset] [(.int ((35 : Int32).toInt8.toInt32))])
  rw [show ((35 : Int32).toInt8.toInt32) = (35 : Int32) from by decide]
  show Go p e below s _ _ _ s₁ (mkF m 2 #[.val (.ref d), .val (.int (35 : Int32)), .val (.int (0 : Int32)), .val (.int (8 : Int32)), .unset, .unset] [(.int (35 : Int32))])
  refine Go.st (fun _ => XS.istore X0.here hx rfl (hb hby d23_2) rfl (l' := #[.val (.ref d), .val (.int (35 : Int32)), .val (.int (0 : Int32)), .val (.int (8 : Int32)), .val (.int (35 : Int32)), .unset]) rfl) ?_
  show Go p e below s _ _ _ s₁ (mkF m 4 #[.val (.ref d), .val (.int (35 : Int32)), .val (.int (0 : Int32)), .val (.int (8 : Int32)), .val (.int (35 : Int32)), .unset] [])
  refine Go.st (fun _ => XS.iloadN X0.here hx rfl (hb hby d23_4) rfl) ?_
  show Go p e below s _ _ _ s₁ (mkF m 5 #[.val (.ref d), .val (.int (35 : Int32)), .val (.int (0 : Int32)), .val (.int (8 : Int32)), .val (.int (35 : Int32)), .unset] [(.int (0 : Int32))])
  refine Go.st (fun _ => XS.istore X0.here hx rfl (hb hby d23_5) rfl (l' := #[.val (.ref d), .val (.int (35 : Int32)), .val (.int (0 : Int32)), .val (.int (8 : Int32)), .val (.int (35 : Int32)), .val (.int (0 : Int32))]) rfl) ?_
  show Go p e below s _ _ _ s₁ (mkF m 7 #[.val (.ref d), .val (.int (35 : Int32)), .val (.int (0 : Int32)), .val (.int (8 : Int32)), .val (.int (35 : Int32)), .val (.int (0 : Int32))] [])
  refine Go.st (fun _ => XS.iload X0.here hx rfl (hb hby d23_7) rfl) ?_
  show Go p e below s _ _ _ s₁ (mkF m 9 #[.val (.ref d), .val (.int (35 : Int32)), .val (.int (0 : Int32)), .val (.int (8 : Int32)), .val (.int (35 : Int32)), .val (.int (0 : Int32))] [(.int (0 : Int32))])
  refine Go.st (fun _ => XS.iloadN X0.here hx rfl (hb hby d23_9) rfl) ?_
  show Go p e below s _ _ _ s₁ (mkF m 10 #[.val (.ref d), .val (.int (35 : Int32)), .val (.int (0 : Int32)), .val (.int (8 : Int32)), .val (.int (35 : Int32)), .val (.int (0 : Int32))] [(.int (8 : Int32)), (.int (0 : Int32))])
  refine Go.st (fun _ => XS.icmpNo X0.here hx rfl (hb hby d23_10) rfl (tlt (by decide : (0 : Int32) < (8 : Int32))).2.1) ?_
  show Go p e below s _ _ _ s₁ (mkF m 13 #[.val (.ref d), .val (.int (35 : Int32)), .val (.int (0 : Int32)), .val (.int (8 : Int32)), .val (.int (35 : Int32)), .val (.int (0 : Int32))] [])
  refine Go.st (fun _ => XS.aloadN X0.here hx rfl (hb hby d23_13) rfl rfl) ?_
  show Go p e below s _ _ _ s₁ (mkF m 14 #[.val (.ref d), .val (.int (35 : Int32)), .val (.int (0 : Int32)), .val (.int (8 : Int32)), .val (.int (35 : Int32)), .val (.int (0 : Int32))] [(.ref d)])
  refine Go.st (fun _ => XS.iload X0.here hx rfl (hb hby d23_14) rfl) ?_
  show Go p e below s _ _ _ s₁ (mkF m 16 #[.val (.ref d), .val (.int (35 : Int32)), .val (.int (0 : Int32)), .val (.int (8 : Int32)), .val (.int (35 : Int32)), .val (.int (0 : Int32))] [(.int (0 : Int32)), (.ref d)])
  obtain ⟨cl_1, Ar_1, q_1, S_1, M_1, H_1, G_1⟩ := id V_d
  have hin_1 : ¬ ((0 : Int32) < 0 ∨ cl_1.slots.size ≤ ((0 : Int32)).toNatClampNeg) := inb_of S_1 ⟨by decide, by decide⟩
  have hat_1 : cl_1.slots[((0 : Int32)).toNatClampNeg]? = some (.int (43 : Int32)) := H_1.at hin_1 rfl
  refine Go.st (fun tG => X0.baloadBytes hx (j := (0 : Int32)) (v := (.int (43 : Int32))) (by rw [e0]; exact Ar_1.1) (State.isArrayOf_alike hZ.alike Ar_1.2.1) Ar_1.2.2 hin_1 hat_1 (g := (mkF m 16 #[.val (.ref d), .val (.int (35 : Int32)), .val (.int (0 : Int32)), .val (.int (8 : Int32)), .val (.int (35 : Int32)), .val (.int (0 : Int32))] [(.int (0 : Int32)), (.ref d)])) rfl rfl (hb hby d23_16) tG) ?_
  show Go p e below s _ _ _ s₁ (mkF m 17 #[.val (.ref d), .val (.int (35 : Int32)), .val (.int (0 : Int32)), .val (.int (8 : Int32)), .val (.int (35 : Int32)), .val (.int (0 : Int32))] [(.int (43 : Int32))])
  refine Go.st (fun _ => XS.iload X0.here hx rfl (hb hby d23_17) rfl) ?_
  show Go p e below s _ _ _ s₁ (mkF m 19 #[.val (.ref d), .val (.int (35 : Int32)), .val (.int (0 : Int32)), .val (.int (8 : Int32)), .val (.int (35 : Int32)), .val (.int (0 : Int32))] [(.int (35 : Int32)), (.int (43 : Int32))])
  refine Go.st (fun _ => XS.icmpYes X0.here hx rfl (pc0 := 19) (pc' := 25) rfl (hb hby d23_19) rfl (feq (by decide : ¬ ((43 : Int32) = (35 : Int32)))).2 (by decide) (by decide)) ?_
  show Go p e below s _ _ _ s₁ (mkF m 25 #[.val (.ref d), .val (.int (35 : Int32)), .val (.int (0 : Int32)), .val (.int (8 : Int32)), .val (.int (35 : Int32)), .val (.int (0 : Int32))] [])
  refine Go.st (fun _ => XS.iinc X0.here hx rfl (hb hby d23_25) rfl (l' := #[.val (.ref d), .val (.int (35 : Int32)), .val (.int (0 : Int32)), .val (.int (8 : Int32)), .val (.int (35 : Int32)), .val (.int ((0 : Int32) + (1 : Int32)))]) rfl) ?_
  show Go p e below s _ _ _ s₁ (mkF m 28 #[.val (.ref d), .val (.int (35 : Int32)), .val (.int (0 : Int32)), .val (.int (8 : Int32)), .val (.int (35 : Int32)), .val (.int ((0 : Int32) + (1 : Int32)))] [])
  rw [show ((0 : Int32) + (1 : Int32)) = (1 : Int32) from by decide]
  show Go p e below s _ _ _ s₁ (mkF m 28 #[.val (.ref d), .val (.int (35 : Int32)), .val (.int (0 : Int32)), .val (.int (8 : Int32)), .val (.int (35 : Int32)), .val (.int (1 : Int32))] [])
  refine Go.st (fun _ => XS.goto X0.here hx rfl (pc0 := 28) (pc' := 7) rfl (hb hby d23_28) (by decide) (by decide)) ?_
  show Go p e below s _ _ _ s₁ (mkF m 7 #[.val (.ref d), .val (.int (35 : Int32)), .val (.int (0 : Int32)), .val (.int (8 : Int32)), .val (.int (35 : Int32)), .val (.int (1 : Int32))] [])
  refine Go.st (fun _ => XS.iload X0.here hx rfl (hb hby d23_7) rfl) ?_
  show Go p e below s _ _ _ s₁ (mkF m 9 #[.val (.ref d), .val (.int (35 : Int32)), .val (.int (0 : Int32)), .val (.int (8 : Int32)), .val (.int (35 : Int32)), .val (.int (1 : Int32))] [(.int (1 : Int32))])
  refine Go.st (fun _ => XS.iloadN X0.here hx rfl (hb hby d23_9) rfl) ?_
  show Go p e below s _ _ _ s₁ (mkF m 10 #[.val (.ref d), .val (.int (35 : Int32)), .val (.int (0 : Int32)), .val (.int (8 : Int32)), .val (.int (35 : Int32)), .val (.int (1 : Int32))] [(.int (8 : Int32)), (.int (1 : Int32))])
  refine Go.st (fun _ => XS.icmpNo X0.here hx rfl (hb hby d23_10) rfl (tlt (by decide : (1 : Int32) < (8 : Int32))).2.1) ?_
  show Go p e below s _ _ _ s₁ (mkF m 13 #[.val (.ref d), .val (.int (35 : Int32)), .val (.int (0 : Int32)), .val (.int (8 : Int32)), .val (.int (35 : Int32)), .val (.int (1 : Int32))] [])
  refine Go.st (fun _ => XS.aloadN X0.here hx rfl (hb hby d23_13) rfl rfl) ?_
  show Go p e below s _ _ _ s₁ (mkF m 14 #[.val (.ref d), .val (.int (35 : Int32)), .val (.int (0 : Int32)), .val (.int (8 : Int32)), .val (.int (35 : Int32)), .val (.int (1 : Int32))] [(.ref d)])
  refine Go.st (fun _ => XS.iload X0.here hx rfl (hb hby d23_14) rfl) ?_
  show Go p e below s _ _ _ s₁ (mkF m 16 #[.val (.ref d), .val (.int (35 : Int32)), .val (.int (0 : Int32)), .val (.int (8 : Int32)), .val (.int (35 : Int32)), .val (.int (1 : Int32))] [(.int (1 : Int32)), (.ref d)])
  obtain ⟨cl_2, Ar_2, q_2, S_2, M_2, H_2, G_2⟩ := id V_d
  have hin_2 : ¬ ((1 : Int32) < 0 ∨ cl_2.slots.size ≤ ((1 : Int32)).toNatClampNeg) := inb_of S_2 ⟨by decide, by decide⟩
  have hat_2 : cl_2.slots[((1 : Int32)).toNatClampNeg]? = some (.int (47 : Int32)) := H_2.at hin_2 rfl
  refine Go.st (fun tG => X0.baloadBytes hx (j := (1 : Int32)) (v := (.int (47 : Int32))) (by rw [e0]; exact Ar_2.1) (State.isArrayOf_alike hZ.alike Ar_2.2.1) Ar_2.2.2 hin_2 hat_2 (g := (mkF m 16 #[.val (.ref d), .val (.int (35 : Int32)), .val (.int (0 : Int32)), .val (.int (8 : Int32)), .val (.int (35 : Int32)), .val (.int (1 : Int32))] [(.int (1 : Int32)), (.ref d)])) rfl rfl (hb hby d23_16) tG) ?_
  show Go p e below s _ _ _ s₁ (mkF m 17 #[.val (.ref d), .val (.int (35 : Int32)), .val (.int (0 : Int32)), .val (.int (8 : Int32)), .val (.int (35 : Int32)), .val (.int (1 : Int32))] [(.int (47 : Int32))])
  refine Go.st (fun _ => XS.iload X0.here hx rfl (hb hby d23_17) rfl) ?_
  show Go p e below s _ _ _ s₁ (mkF m 19 #[.val (.ref d), .val (.int (35 : Int32)), .val (.int (0 : Int32)), .val (.int (8 : Int32)), .val (.int (35 : Int32)), .val (.int (1 : Int32))] [(.int (35 : Int32)), (.int (47 : Int32))])
  refine Go.st (fun _ => XS.icmpYes X0.here hx rfl (pc0 := 19) (pc' := 25) rfl (hb hby d23_19) rfl (feq (by decide : ¬ ((47 : Int32) = (35 : Int32)))).2 (by decide) (by decide)) ?_
  show Go p e below s _ _ _ s₁ (mkF m 25 #[.val (.ref d), .val (.int (35 : Int32)), .val (.int (0 : Int32)), .val (.int (8 : Int32)), .val (.int (35 : Int32)), .val (.int (1 : Int32))] [])
  refine Go.st (fun _ => XS.iinc X0.here hx rfl (hb hby d23_25) rfl (l' := #[.val (.ref d), .val (.int (35 : Int32)), .val (.int (0 : Int32)), .val (.int (8 : Int32)), .val (.int (35 : Int32)), .val (.int ((1 : Int32) + (1 : Int32)))]) rfl) ?_
  show Go p e below s _ _ _ s₁ (mkF m 28 #[.val (.ref d), .val (.int (35 : Int32)), .val (.int (0 : Int32)), .val (.int (8 : Int32)), .val (.int (35 : Int32)), .val (.int ((1 : Int32) + (1 : Int32)))] [])
  rw [show ((1 : Int32) + (1 : Int32)) = (2 : Int32) from by decide]
  show Go p e below s _ _ _ s₁ (mkF m 28 #[.val (.ref d), .val (.int (35 : Int32)), .val (.int (0 : Int32)), .val (.int (8 : Int32)), .val (.int (35 : Int32)), .val (.int (2 : Int32))] [])
  refine Go.st (fun _ => XS.goto X0.here hx rfl (pc0 := 28) (pc' := 7) rfl (hb hby d23_28) (by decide) (by decide)) ?_
  show Go p e below s _ _ _ s₁ (mkF m 7 #[.val (.ref d), .val (.int (35 : Int32)), .val (.int (0 : Int32)), .val (.int (8 : Int32)), .val (.int (35 : Int32)), .val (.int (2 : Int32))] [])
  refine Go.st (fun _ => XS.iload X0.here hx rfl (hb hby d23_7) rfl) ?_
  show Go p e below s _ _ _ s₁ (mkF m 9 #[.val (.ref d), .val (.int (35 : Int32)), .val (.int (0 : Int32)), .val (.int (8 : Int32)), .val (.int (35 : Int32)), .val (.int (2 : Int32))] [(.int (2 : Int32))])
  refine Go.st (fun _ => XS.iloadN X0.here hx rfl (hb hby d23_9) rfl) ?_
  show Go p e below s _ _ _ s₁ (mkF m 10 #[.val (.ref d), .val (.int (35 : Int32)), .val (.int (0 : Int32)), .val (.int (8 : Int32)), .val (.int (35 : Int32)), .val (.int (2 : Int32))] [(.int (8 : Int32)), (.int (2 : Int32))])
  refine Go.st (fun _ => XS.icmpNo X0.here hx rfl (hb hby d23_10) rfl (tlt (by decide : (2 : Int32) < (8 : Int32))).2.1) ?_
  show Go p e below s _ _ _ s₁ (mkF m 13 #[.val (.ref d), .val (.int (35 : Int32)), .val (.int (0 : Int32)), .val (.int (8 : Int32)), .val (.int (35 : Int32)), .val (.int (2 : Int32))] [])
  refine Go.st (fun _ => XS.aloadN X0.here hx rfl (hb hby d23_13) rfl rfl) ?_
  show Go p e below s _ _ _ s₁ (mkF m 14 #[.val (.ref d), .val (.int (35 : Int32)), .val (.int (0 : Int32)), .val (.int (8 : Int32)), .val (.int (35 : Int32)), .val (.int (2 : Int32))] [(.ref d)])
  refine Go.st (fun _ => XS.iload X0.here hx rfl (hb hby d23_14) rfl) ?_
  show Go p e below s _ _ _ s₁ (mkF m 16 #[.val (.ref d), .val (.int (35 : Int32)), .val (.int (0 : Int32)), .val (.int (8 : Int32)), .val (.int (35 : Int32)), .val (.int (2 : Int32))] [(.int (2 : Int32)), (.ref d)])
  obtain ⟨cl_3, Ar_3, q_3, S_3, M_3, H_3, G_3⟩ := id V_d
  have hin_3 : ¬ ((2 : Int32) < 0 ∨ cl_3.slots.size ≤ ((2 : Int32)).toNatClampNeg) := inb_of S_3 ⟨by decide, by decide⟩
  have hat_3 : cl_3.slots[((2 : Int32)).toNatClampNeg]? = some (.int (61 : Int32)) := H_3.at hin_3 rfl
  refine Go.st (fun tG => X0.baloadBytes hx (j := (2 : Int32)) (v := (.int (61 : Int32))) (by rw [e0]; exact Ar_3.1) (State.isArrayOf_alike hZ.alike Ar_3.2.1) Ar_3.2.2 hin_3 hat_3 (g := (mkF m 16 #[.val (.ref d), .val (.int (35 : Int32)), .val (.int (0 : Int32)), .val (.int (8 : Int32)), .val (.int (35 : Int32)), .val (.int (2 : Int32))] [(.int (2 : Int32)), (.ref d)])) rfl rfl (hb hby d23_16) tG) ?_
  show Go p e below s _ _ _ s₁ (mkF m 17 #[.val (.ref d), .val (.int (35 : Int32)), .val (.int (0 : Int32)), .val (.int (8 : Int32)), .val (.int (35 : Int32)), .val (.int (2 : Int32))] [(.int (61 : Int32))])
  refine Go.st (fun _ => XS.iload X0.here hx rfl (hb hby d23_17) rfl) ?_
  show Go p e below s _ _ _ s₁ (mkF m 19 #[.val (.ref d), .val (.int (35 : Int32)), .val (.int (0 : Int32)), .val (.int (8 : Int32)), .val (.int (35 : Int32)), .val (.int (2 : Int32))] [(.int (35 : Int32)), (.int (61 : Int32))])
  refine Go.st (fun _ => XS.icmpYes X0.here hx rfl (pc0 := 19) (pc' := 25) rfl (hb hby d23_19) rfl (feq (by decide : ¬ ((61 : Int32) = (35 : Int32)))).2 (by decide) (by decide)) ?_
  show Go p e below s _ _ _ s₁ (mkF m 25 #[.val (.ref d), .val (.int (35 : Int32)), .val (.int (0 : Int32)), .val (.int (8 : Int32)), .val (.int (35 : Int32)), .val (.int (2 : Int32))] [])
  refine Go.st (fun _ => XS.iinc X0.here hx rfl (hb hby d23_25) rfl (l' := #[.val (.ref d), .val (.int (35 : Int32)), .val (.int (0 : Int32)), .val (.int (8 : Int32)), .val (.int (35 : Int32)), .val (.int ((2 : Int32) + (1 : Int32)))]) rfl) ?_
  show Go p e below s _ _ _ s₁ (mkF m 28 #[.val (.ref d), .val (.int (35 : Int32)), .val (.int (0 : Int32)), .val (.int (8 : Int32)), .val (.int (35 : Int32)), .val (.int ((2 : Int32) + (1 : Int32)))] [])
  rw [show ((2 : Int32) + (1 : Int32)) = (3 : Int32) from by decide]
  show Go p e below s _ _ _ s₁ (mkF m 28 #[.val (.ref d), .val (.int (35 : Int32)), .val (.int (0 : Int32)), .val (.int (8 : Int32)), .val (.int (35 : Int32)), .val (.int (3 : Int32))] [])
  refine Go.st (fun _ => XS.goto X0.here hx rfl (pc0 := 28) (pc' := 7) rfl (hb hby d23_28) (by decide) (by decide)) ?_
  show Go p e below s _ _ _ s₁ (mkF m 7 #[.val (.ref d), .val (.int (35 : Int32)), .val (.int (0 : Int32)), .val (.int (8 : Int32)), .val (.int (35 : Int32)), .val (.int (3 : Int32))] [])
  refine Go.st (fun _ => XS.iload X0.here hx rfl (hb hby d23_7) rfl) ?_
  show Go p e below s _ _ _ s₁ (mkF m 9 #[.val (.ref d), .val (.int (35 : Int32)), .val (.int (0 : Int32)), .val (.int (8 : Int32)), .val (.int (35 : Int32)), .val (.int (3 : Int32))] [(.int (3 : Int32))])
  refine Go.st (fun _ => XS.iloadN X0.here hx rfl (hb hby d23_9) rfl) ?_
  show Go p e below s _ _ _ s₁ (mkF m 10 #[.val (.ref d), .val (.int (35 : Int32)), .val (.int (0 : Int32)), .val (.int (8 : Int32)), .val (.int (35 : Int32)), .val (.int (3 : Int32))] [(.int (8 : Int32)), (.int (3 : Int32))])
  refine Go.st (fun _ => XS.icmpNo X0.here hx rfl (hb hby d23_10) rfl (tlt (by decide : (3 : Int32) < (8 : Int32))).2.1) ?_
  show Go p e below s _ _ _ s₁ (mkF m 13 #[.val (.ref d), .val (.int (35 : Int32)), .val (.int (0 : Int32)), .val (.int (8 : Int32)), .val (.int (35 : Int32)), .val (.int (3 : Int32))] [])
  refine Go.st (fun _ => XS.aloadN X0.here hx rfl (hb hby d23_13) rfl rfl) ?_
  show Go p e below s _ _ _ s₁ (mkF m 14 #[.val (.ref d), .val (.int (35 : Int32)), .val (.int (0 : Int32)), .val (.int (8 : Int32)), .val (.int (35 : Int32)), .val (.int (3 : Int32))] [(.ref d)])
  refine Go.st (fun _ => XS.iload X0.here hx rfl (hb hby d23_14) rfl) ?_
  show Go p e below s _ _ _ s₁ (mkF m 16 #[.val (.ref d), .val (.int (35 : Int32)), .val (.int (0 : Int32)), .val (.int (8 : Int32)), .val (.int (35 : Int32)), .val (.int (3 : Int32))] [(.int (3 : Int32)), (.ref d)])
  obtain ⟨cl_4, Ar_4, q_4, S_4, M_4, H_4, G_4⟩ := id V_d
  have hin_4 : ¬ ((3 : Int32) < 0 ∨ cl_4.slots.size ≤ ((3 : Int32)).toNatClampNeg) := inb_of S_4 ⟨by decide, by decide⟩
  have hat_4 : cl_4.slots[((3 : Int32)).toNatClampNeg]? = some (.int (45 : Int32)) := H_4.at hin_4 rfl
  refine Go.st (fun tG => X0.baloadBytes hx (j := (3 : Int32)) (v := (.int (45 : Int32))) (by rw [e0]; exact Ar_4.1) (State.isArrayOf_alike hZ.alike Ar_4.2.1) Ar_4.2.2 hin_4 hat_4 (g := (mkF m 16 #[.val (.ref d), .val (.int (35 : Int32)), .val (.int (0 : Int32)), .val (.int (8 : Int32)), .val (.int (35 : Int32)), .val (.int (3 : Int32))] [(.int (3 : Int32)), (.ref d)])) rfl rfl (hb hby d23_16) tG) ?_
  show Go p e below s _ _ _ s₁ (mkF m 17 #[.val (.ref d), .val (.int (35 : Int32)), .val (.int (0 : Int32)), .val (.int (8 : Int32)), .val (.int (35 : Int32)), .val (.int (3 : Int32))] [(.int (45 : Int32))])
  refine Go.st (fun _ => XS.iload X0.here hx rfl (hb hby d23_17) rfl) ?_
  show Go p e below s _ _ _ s₁ (mkF m 19 #[.val (.ref d), .val (.int (35 : Int32)), .val (.int (0 : Int32)), .val (.int (8 : Int32)), .val (.int (35 : Int32)), .val (.int (3 : Int32))] [(.int (35 : Int32)), (.int (45 : Int32))])
  refine Go.st (fun _ => XS.icmpYes X0.here hx rfl (pc0 := 19) (pc' := 25) rfl (hb hby d23_19) rfl (feq (by decide : ¬ ((45 : Int32) = (35 : Int32)))).2 (by decide) (by decide)) ?_
  show Go p e below s _ _ _ s₁ (mkF m 25 #[.val (.ref d), .val (.int (35 : Int32)), .val (.int (0 : Int32)), .val (.int (8 : Int32)), .val (.int (35 : Int32)), .val (.int (3 : Int32))] [])
  refine Go.st (fun _ => XS.iinc X0.here hx rfl (hb hby d23_25) rfl (l' := #[.val (.ref d), .val (.int (35 : Int32)), .val (.int (0 : Int32)), .val (.int (8 : Int32)), .val (.int (35 : Int32)), .val (.int ((3 : Int32) + (1 : Int32)))]) rfl) ?_
  show Go p e below s _ _ _ s₁ (mkF m 28 #[.val (.ref d), .val (.int (35 : Int32)), .val (.int (0 : Int32)), .val (.int (8 : Int32)), .val (.int (35 : Int32)), .val (.int ((3 : Int32) + (1 : Int32)))] [])
  rw [show ((3 : Int32) + (1 : Int32)) = (4 : Int32) from by decide]
  show Go p e below s _ _ _ s₁ (mkF m 28 #[.val (.ref d), .val (.int (35 : Int32)), .val (.int (0 : Int32)), .val (.int (8 : Int32)), .val (.int (35 : Int32)), .val (.int (4 : Int32))] [])
  refine Go.st (fun _ => XS.goto X0.here hx rfl (pc0 := 28) (pc' := 7) rfl (hb hby d23_28) (by decide) (by decide)) ?_
  show Go p e below s _ _ _ s₁ (mkF m 7 #[.val (.ref d), .val (.int (35 : Int32)), .val (.int (0 : Int32)), .val (.int (8 : Int32)), .val (.int (35 : Int32)), .val (.int (4 : Int32))] [])
  refine Go.st (fun _ => XS.iload X0.here hx rfl (hb hby d23_7) rfl) ?_
  show Go p e below s _ _ _ s₁ (mkF m 9 #[.val (.ref d), .val (.int (35 : Int32)), .val (.int (0 : Int32)), .val (.int (8 : Int32)), .val (.int (35 : Int32)), .val (.int (4 : Int32))] [(.int (4 : Int32))])
  refine Go.st (fun _ => XS.iloadN X0.here hx rfl (hb hby d23_9) rfl) ?_
  show Go p e below s _ _ _ s₁ (mkF m 10 #[.val (.ref d), .val (.int (35 : Int32)), .val (.int (0 : Int32)), .val (.int (8 : Int32)), .val (.int (35 : Int32)), .val (.int (4 : Int32))] [(.int (8 : Int32)), (.int (4 : Int32))])
  refine Go.st (fun _ => XS.icmpNo X0.here hx rfl (hb hby d23_10) rfl (tlt (by decide : (4 : Int32) < (8 : Int32))).2.1) ?_
  show Go p e below s _ _ _ s₁ (mkF m 13 #[.val (.ref d), .val (.int (35 : Int32)), .val (.int (0 : Int32)), .val (.int (8 : Int32)), .val (.int (35 : Int32)), .val (.int (4 : Int32))] [])
  refine Go.st (fun _ => XS.aloadN X0.here hx rfl (hb hby d23_13) rfl rfl) ?_
  show Go p e below s _ _ _ s₁ (mkF m 14 #[.val (.ref d), .val (.int (35 : Int32)), .val (.int (0 : Int32)), .val (.int (8 : Int32)), .val (.int (35 : Int32)), .val (.int (4 : Int32))] [(.ref d)])
  refine Go.st (fun _ => XS.iload X0.here hx rfl (hb hby d23_14) rfl) ?_
  show Go p e below s _ _ _ s₁ (mkF m 16 #[.val (.ref d), .val (.int (35 : Int32)), .val (.int (0 : Int32)), .val (.int (8 : Int32)), .val (.int (35 : Int32)), .val (.int (4 : Int32))] [(.int (4 : Int32)), (.ref d)])
  obtain ⟨cl_5, Ar_5, q_5, S_5, M_5, H_5, G_5⟩ := id V_d
  have hin_5 : ¬ ((4 : Int32) < 0 ∨ cl_5.slots.size ≤ ((4 : Int32)).toNatClampNeg) := inb_of S_5 ⟨by decide, by decide⟩
  have hat_5 : cl_5.slots[((4 : Int32)).toNatClampNeg]? = some (.int (124 : Int32)) := H_5.at hin_5 rfl
  refine Go.st (fun tG => X0.baloadBytes hx (j := (4 : Int32)) (v := (.int (124 : Int32))) (by rw [e0]; exact Ar_5.1) (State.isArrayOf_alike hZ.alike Ar_5.2.1) Ar_5.2.2 hin_5 hat_5 (g := (mkF m 16 #[.val (.ref d), .val (.int (35 : Int32)), .val (.int (0 : Int32)), .val (.int (8 : Int32)), .val (.int (35 : Int32)), .val (.int (4 : Int32))] [(.int (4 : Int32)), (.ref d)])) rfl rfl (hb hby d23_16) tG) ?_
  show Go p e below s _ _ _ s₁ (mkF m 17 #[.val (.ref d), .val (.int (35 : Int32)), .val (.int (0 : Int32)), .val (.int (8 : Int32)), .val (.int (35 : Int32)), .val (.int (4 : Int32))] [(.int (124 : Int32))])
  refine Go.st (fun _ => XS.iload X0.here hx rfl (hb hby d23_17) rfl) ?_
  show Go p e below s _ _ _ s₁ (mkF m 19 #[.val (.ref d), .val (.int (35 : Int32)), .val (.int (0 : Int32)), .val (.int (8 : Int32)), .val (.int (35 : Int32)), .val (.int (4 : Int32))] [(.int (35 : Int32)), (.int (124 : Int32))])
  refine Go.st (fun _ => XS.icmpYes X0.here hx rfl (pc0 := 19) (pc' := 25) rfl (hb hby d23_19) rfl (feq (by decide : ¬ ((124 : Int32) = (35 : Int32)))).2 (by decide) (by decide)) ?_
  show Go p e below s _ _ _ s₁ (mkF m 25 #[.val (.ref d), .val (.int (35 : Int32)), .val (.int (0 : Int32)), .val (.int (8 : Int32)), .val (.int (35 : Int32)), .val (.int (4 : Int32))] [])
  refine Go.st (fun _ => XS.iinc X0.here hx rfl (hb hby d23_25) rfl (l' := #[.val (.ref d), .val (.int (35 : Int32)), .val (.int (0 : Int32)), .val (.int (8 : Int32)), .val (.int (35 : Int32)), .val (.int ((4 : Int32) + (1 : Int32)))]) rfl) ?_
  show Go p e below s _ _ _ s₁ (mkF m 28 #[.val (.ref d), .val (.int (35 : Int32)), .val (.int (0 : Int32)), .val (.int (8 : Int32)), .val (.int (35 : Int32)), .val (.int ((4 : Int32) + (1 : Int32)))] [])
  rw [show ((4 : Int32) + (1 : Int32)) = (5 : Int32) from by decide]
  show Go p e below s _ _ _ s₁ (mkF m 28 #[.val (.ref d), .val (.int (35 : Int32)), .val (.int (0 : Int32)), .val (.int (8 : Int32)), .val (.int (35 : Int32)), .val (.int (5 : Int32))] [])
  refine Go.st (fun _ => XS.goto X0.here hx rfl (pc0 := 28) (pc' := 7) rfl (hb hby d23_28) (by decide) (by decide)) ?_
  show Go p e below s _ _ _ s₁ (mkF m 7 #[.val (.ref d), .val (.int (35 : Int32)), .val (.int (0 : Int32)), .val (.int (8 : Int32)), .val (.int (35 : Int32)), .val (.int (5 : Int32))] [])
  refine Go.st (fun _ => XS.iload X0.here hx rfl (hb hby d23_7) rfl) ?_
  show Go p e below s _ _ _ s₁ (mkF m 9 #[.val (.ref d), .val (.int (35 : Int32)), .val (.int (0 : Int32)), .val (.int (8 : Int32)), .val (.int (35 : Int32)), .val (.int (5 : Int32))] [(.int (5 : Int32))])
  refine Go.st (fun _ => XS.iloadN X0.here hx rfl (hb hby d23_9) rfl) ?_
  show Go p e below s _ _ _ s₁ (mkF m 10 #[.val (.ref d), .val (.int (35 : Int32)), .val (.int (0 : Int32)), .val (.int (8 : Int32)), .val (.int (35 : Int32)), .val (.int (5 : Int32))] [(.int (8 : Int32)), (.int (5 : Int32))])
  refine Go.st (fun _ => XS.icmpNo X0.here hx rfl (hb hby d23_10) rfl (tlt (by decide : (5 : Int32) < (8 : Int32))).2.1) ?_
  show Go p e below s _ _ _ s₁ (mkF m 13 #[.val (.ref d), .val (.int (35 : Int32)), .val (.int (0 : Int32)), .val (.int (8 : Int32)), .val (.int (35 : Int32)), .val (.int (5 : Int32))] [])
  refine Go.st (fun _ => XS.aloadN X0.here hx rfl (hb hby d23_13) rfl rfl) ?_
  show Go p e below s _ _ _ s₁ (mkF m 14 #[.val (.ref d), .val (.int (35 : Int32)), .val (.int (0 : Int32)), .val (.int (8 : Int32)), .val (.int (35 : Int32)), .val (.int (5 : Int32))] [(.ref d)])
  refine Go.st (fun _ => XS.iload X0.here hx rfl (hb hby d23_14) rfl) ?_
  show Go p e below s _ _ _ s₁ (mkF m 16 #[.val (.ref d), .val (.int (35 : Int32)), .val (.int (0 : Int32)), .val (.int (8 : Int32)), .val (.int (35 : Int32)), .val (.int (5 : Int32))] [(.int (5 : Int32)), (.ref d)])
  obtain ⟨cl_6, Ar_6, q_6, S_6, M_6, H_6, G_6⟩ := id V_d
  have hin_6 : ¬ ((5 : Int32) < 0 ∨ cl_6.slots.size ≤ ((5 : Int32)).toNatClampNeg) := inb_of S_6 ⟨by decide, by decide⟩
  have hat_6 : cl_6.slots[((5 : Int32)).toNatClampNeg]? = some (.int (46 : Int32)) := H_6.at hin_6 rfl
  refine Go.st (fun tG => X0.baloadBytes hx (j := (5 : Int32)) (v := (.int (46 : Int32))) (by rw [e0]; exact Ar_6.1) (State.isArrayOf_alike hZ.alike Ar_6.2.1) Ar_6.2.2 hin_6 hat_6 (g := (mkF m 16 #[.val (.ref d), .val (.int (35 : Int32)), .val (.int (0 : Int32)), .val (.int (8 : Int32)), .val (.int (35 : Int32)), .val (.int (5 : Int32))] [(.int (5 : Int32)), (.ref d)])) rfl rfl (hb hby d23_16) tG) ?_
  show Go p e below s _ _ _ s₁ (mkF m 17 #[.val (.ref d), .val (.int (35 : Int32)), .val (.int (0 : Int32)), .val (.int (8 : Int32)), .val (.int (35 : Int32)), .val (.int (5 : Int32))] [(.int (46 : Int32))])
  refine Go.st (fun _ => XS.iload X0.here hx rfl (hb hby d23_17) rfl) ?_
  show Go p e below s _ _ _ s₁ (mkF m 19 #[.val (.ref d), .val (.int (35 : Int32)), .val (.int (0 : Int32)), .val (.int (8 : Int32)), .val (.int (35 : Int32)), .val (.int (5 : Int32))] [(.int (35 : Int32)), (.int (46 : Int32))])
  refine Go.st (fun _ => XS.icmpYes X0.here hx rfl (pc0 := 19) (pc' := 25) rfl (hb hby d23_19) rfl (feq (by decide : ¬ ((46 : Int32) = (35 : Int32)))).2 (by decide) (by decide)) ?_
  show Go p e below s _ _ _ s₁ (mkF m 25 #[.val (.ref d), .val (.int (35 : Int32)), .val (.int (0 : Int32)), .val (.int (8 : Int32)), .val (.int (35 : Int32)), .val (.int (5 : Int32))] [])
  refine Go.st (fun _ => XS.iinc X0.here hx rfl (hb hby d23_25) rfl (l' := #[.val (.ref d), .val (.int (35 : Int32)), .val (.int (0 : Int32)), .val (.int (8 : Int32)), .val (.int (35 : Int32)), .val (.int ((5 : Int32) + (1 : Int32)))]) rfl) ?_
  show Go p e below s _ _ _ s₁ (mkF m 28 #[.val (.ref d), .val (.int (35 : Int32)), .val (.int (0 : Int32)), .val (.int (8 : Int32)), .val (.int (35 : Int32)), .val (.int ((5 : Int32) + (1 : Int32)))] [])
  rw [show ((5 : Int32) + (1 : Int32)) = (6 : Int32) from by decide]
  show Go p e below s _ _ _ s₁ (mkF m 28 #[.val (.ref d), .val (.int (35 : Int32)), .val (.int (0 : Int32)), .val (.int (8 : Int32)), .val (.int (35 : Int32)), .val (.int (6 : Int32))] [])
  refine Go.st (fun _ => XS.goto X0.here hx rfl (pc0 := 28) (pc' := 7) rfl (hb hby d23_28) (by decide) (by decide)) ?_
  show Go p e below s _ _ _ s₁ (mkF m 7 #[.val (.ref d), .val (.int (35 : Int32)), .val (.int (0 : Int32)), .val (.int (8 : Int32)), .val (.int (35 : Int32)), .val (.int (6 : Int32))] [])
  refine Go.st (fun _ => XS.iload X0.here hx rfl (hb hby d23_7) rfl) ?_
  show Go p e below s _ _ _ s₁ (mkF m 9 #[.val (.ref d), .val (.int (35 : Int32)), .val (.int (0 : Int32)), .val (.int (8 : Int32)), .val (.int (35 : Int32)), .val (.int (6 : Int32))] [(.int (6 : Int32))])
  refine Go.st (fun _ => XS.iloadN X0.here hx rfl (hb hby d23_9) rfl) ?_
  show Go p e below s _ _ _ s₁ (mkF m 10 #[.val (.ref d), .val (.int (35 : Int32)), .val (.int (0 : Int32)), .val (.int (8 : Int32)), .val (.int (35 : Int32)), .val (.int (6 : Int32))] [(.int (8 : Int32)), (.int (6 : Int32))])
  refine Go.st (fun _ => XS.icmpNo X0.here hx rfl (hb hby d23_10) rfl (tlt (by decide : (6 : Int32) < (8 : Int32))).2.1) ?_
  show Go p e below s _ _ _ s₁ (mkF m 13 #[.val (.ref d), .val (.int (35 : Int32)), .val (.int (0 : Int32)), .val (.int (8 : Int32)), .val (.int (35 : Int32)), .val (.int (6 : Int32))] [])
  refine Go.st (fun _ => XS.aloadN X0.here hx rfl (hb hby d23_13) rfl rfl) ?_
  show Go p e below s _ _ _ s₁ (mkF m 14 #[.val (.ref d), .val (.int (35 : Int32)), .val (.int (0 : Int32)), .val (.int (8 : Int32)), .val (.int (35 : Int32)), .val (.int (6 : Int32))] [(.ref d)])
  refine Go.st (fun _ => XS.iload X0.here hx rfl (hb hby d23_14) rfl) ?_
  show Go p e below s _ _ _ s₁ (mkF m 16 #[.val (.ref d), .val (.int (35 : Int32)), .val (.int (0 : Int32)), .val (.int (8 : Int32)), .val (.int (35 : Int32)), .val (.int (6 : Int32))] [(.int (6 : Int32)), (.ref d)])
  obtain ⟨cl_7, Ar_7, q_7, S_7, M_7, H_7, G_7⟩ := id V_d
  have hin_7 : ¬ ((6 : Int32) < 0 ∨ cl_7.slots.size ≤ ((6 : Int32)).toNatClampNeg) := inb_of S_7 ⟨by decide, by decide⟩
  have hat_7 : cl_7.slots[((6 : Int32)).toNatClampNeg]? = some (.int (95 : Int32)) := H_7.at hin_7 rfl
  refine Go.st (fun tG => X0.baloadBytes hx (j := (6 : Int32)) (v := (.int (95 : Int32))) (by rw [e0]; exact Ar_7.1) (State.isArrayOf_alike hZ.alike Ar_7.2.1) Ar_7.2.2 hin_7 hat_7 (g := (mkF m 16 #[.val (.ref d), .val (.int (35 : Int32)), .val (.int (0 : Int32)), .val (.int (8 : Int32)), .val (.int (35 : Int32)), .val (.int (6 : Int32))] [(.int (6 : Int32)), (.ref d)])) rfl rfl (hb hby d23_16) tG) ?_
  show Go p e below s _ _ _ s₁ (mkF m 17 #[.val (.ref d), .val (.int (35 : Int32)), .val (.int (0 : Int32)), .val (.int (8 : Int32)), .val (.int (35 : Int32)), .val (.int (6 : Int32))] [(.int (95 : Int32))])
  refine Go.st (fun _ => XS.iload X0.here hx rfl (hb hby d23_17) rfl) ?_
  show Go p e below s _ _ _ s₁ (mkF m 19 #[.val (.ref d), .val (.int (35 : Int32)), .val (.int (0 : Int32)), .val (.int (8 : Int32)), .val (.int (35 : Int32)), .val (.int (6 : Int32))] [(.int (35 : Int32)), (.int (95 : Int32))])
  refine Go.st (fun _ => XS.icmpYes X0.here hx rfl (pc0 := 19) (pc' := 25) rfl (hb hby d23_19) rfl (feq (by decide : ¬ ((95 : Int32) = (35 : Int32)))).2 (by decide) (by decide)) ?_
  show Go p e below s _ _ _ s₁ (mkF m 25 #[.val (.ref d), .val (.int (35 : Int32)), .val (.int (0 : Int32)), .val (.int (8 : Int32)), .val (.int (35 : Int32)), .val (.int (6 : Int32))] [])
  refine Go.st (fun _ => XS.iinc X0.here hx rfl (hb hby d23_25) rfl (l' := #[.val (.ref d), .val (.int (35 : Int32)), .val (.int (0 : Int32)), .val (.int (8 : Int32)), .val (.int (35 : Int32)), .val (.int ((6 : Int32) + (1 : Int32)))]) rfl) ?_
  show Go p e below s _ _ _ s₁ (mkF m 28 #[.val (.ref d), .val (.int (35 : Int32)), .val (.int (0 : Int32)), .val (.int (8 : Int32)), .val (.int (35 : Int32)), .val (.int ((6 : Int32) + (1 : Int32)))] [])
  rw [show ((6 : Int32) + (1 : Int32)) = (7 : Int32) from by decide]
  show Go p e below s _ _ _ s₁ (mkF m 28 #[.val (.ref d), .val (.int (35 : Int32)), .val (.int (0 : Int32)), .val (.int (8 : Int32)), .val (.int (35 : Int32)), .val (.int (7 : Int32))] [])
  refine Go.st (fun _ => XS.goto X0.here hx rfl (pc0 := 28) (pc' := 7) rfl (hb hby d23_28) (by decide) (by decide)) ?_
  show Go p e below s _ _ _ s₁ (mkF m 7 #[.val (.ref d), .val (.int (35 : Int32)), .val (.int (0 : Int32)), .val (.int (8 : Int32)), .val (.int (35 : Int32)), .val (.int (7 : Int32))] [])
  refine Go.st (fun _ => XS.iload X0.here hx rfl (hb hby d23_7) rfl) ?_
  show Go p e below s _ _ _ s₁ (mkF m 9 #[.val (.ref d), .val (.int (35 : Int32)), .val (.int (0 : Int32)), .val (.int (8 : Int32)), .val (.int (35 : Int32)), .val (.int (7 : Int32))] [(.int (7 : Int32))])
  refine Go.st (fun _ => XS.iloadN X0.here hx rfl (hb hby d23_9) rfl) ?_
  show Go p e below s _ _ _ s₁ (mkF m 10 #[.val (.ref d), .val (.int (35 : Int32)), .val (.int (0 : Int32)), .val (.int (8 : Int32)), .val (.int (35 : Int32)), .val (.int (7 : Int32))] [(.int (8 : Int32)), (.int (7 : Int32))])
  refine Go.st (fun _ => XS.icmpNo X0.here hx rfl (hb hby d23_10) rfl (tlt (by decide : (7 : Int32) < (8 : Int32))).2.1) ?_
  show Go p e below s _ _ _ s₁ (mkF m 13 #[.val (.ref d), .val (.int (35 : Int32)), .val (.int (0 : Int32)), .val (.int (8 : Int32)), .val (.int (35 : Int32)), .val (.int (7 : Int32))] [])
  refine Go.st (fun _ => XS.aloadN X0.here hx rfl (hb hby d23_13) rfl rfl) ?_
  show Go p e below s _ _ _ s₁ (mkF m 14 #[.val (.ref d), .val (.int (35 : Int32)), .val (.int (0 : Int32)), .val (.int (8 : Int32)), .val (.int (35 : Int32)), .val (.int (7 : Int32))] [(.ref d)])
  refine Go.st (fun _ => XS.iload X0.here hx rfl (hb hby d23_14) rfl) ?_
  show Go p e below s _ _ _ s₁ (mkF m 16 #[.val (.ref d), .val (.int (35 : Int32)), .val (.int (0 : Int32)), .val (.int (8 : Int32)), .val (.int (35 : Int32)), .val (.int (7 : Int32))] [(.int (7 : Int32)), (.ref d)])
  obtain ⟨cl_8, Ar_8, q_8, S_8, M_8, H_8, G_8⟩ := id V_d
  have hin_8 : ¬ ((7 : Int32) < 0 ∨ cl_8.slots.size ≤ ((7 : Int32)).toNatClampNeg) := inb_of S_8 ⟨by decide, by decide⟩
  have hat_8 : cl_8.slots[((7 : Int32)).toNatClampNeg]? = some (.int (35 : Int32)) := H_8.at hin_8 rfl
  refine Go.st (fun tG => X0.baloadBytes hx (j := (7 : Int32)) (v := (.int (35 : Int32))) (by rw [e0]; exact Ar_8.1) (State.isArrayOf_alike hZ.alike Ar_8.2.1) Ar_8.2.2 hin_8 hat_8 (g := (mkF m 16 #[.val (.ref d), .val (.int (35 : Int32)), .val (.int (0 : Int32)), .val (.int (8 : Int32)), .val (.int (35 : Int32)), .val (.int (7 : Int32))] [(.int (7 : Int32)), (.ref d)])) rfl rfl (hb hby d23_16) tG) ?_
  show Go p e below s _ _ _ s₁ (mkF m 17 #[.val (.ref d), .val (.int (35 : Int32)), .val (.int (0 : Int32)), .val (.int (8 : Int32)), .val (.int (35 : Int32)), .val (.int (7 : Int32))] [(.int (35 : Int32))])
  refine Go.st (fun _ => XS.iload X0.here hx rfl (hb hby d23_17) rfl) ?_
  show Go p e below s _ _ _ s₁ (mkF m 19 #[.val (.ref d), .val (.int (35 : Int32)), .val (.int (0 : Int32)), .val (.int (8 : Int32)), .val (.int (35 : Int32)), .val (.int (7 : Int32))] [(.int (35 : Int32)), (.int (35 : Int32))])
  refine Go.st (fun _ => XS.icmpNo X0.here hx rfl (hb hby d23_19) rfl (teq (by decide : (35 : Int32) = (35 : Int32))).2) ?_
  show Go p e below s _ _ _ s₁ (mkF m 22 #[.val (.ref d), .val (.int (35 : Int32)), .val (.int (0 : Int32)), .val (.int (8 : Int32)), .val (.int (35 : Int32)), .val (.int (7 : Int32))] [])
  refine Go.st (fun _ => XS.iload X0.here hx rfl (hb hby d23_22) rfl) ?_
  show Go p e below s _ _ _ s₁ (mkF m 24 #[.val (.ref d), .val (.int (35 : Int32)), .val (.int (0 : Int32)), .val (.int (8 : Int32)), .val (.int (35 : Int32)), .val (.int (7 : Int32))] [(.int (7 : Int32))])
  exact Go.retI X0 hx hlk Bd.returns (hb hby d23_24) (by rw [e0]; exact ⟨rfl, N0, rfl⟩) (by decide) (by decide)
theorem ef_rmIf35 (m : MethodId) (d : Addr) : entryFrame m #[(.ref d), (.int (35 : Int32)), (.int (0 : Int32)), (.int (8 : Int32))] 4 = mkF m 0 #[.val (.ref d), .val (.int (35 : Int32)), .val (.int (0 : Int32)), .val (.int (8 : Int32))] [] := by first | (simp [entryFrame, mkF, argsToLocals, Value.category]; done) | rfl
def QrmIf35 (Z : State) (d : Addr) (kd : ClassId) (h0 : Heap) (n0 : Nat) (rV : Option Value) (hE : Heap) (LE : List Loc) : Prop := rV = some (.int (7 : Int32)) ∧ Fr n0 LE ∧ hE = h0
set_option maxRecDepth 65536 in
set_option maxHeartbeats 40000000 in
theorem rmIf35 (l : Launch) (Z : State) (a0 : Array Value) (hw : ∀ d ∈ tables_1, d.before a0 Z = true) (ws : List Jvm.Cond) (d : Addr) (kd : ClassId) (h0 : Heap) (n0 : Nat) (Z0 : n0 ≤ h0.size) (V_d : Arv Z h0 d kd .byte (8 : Int32) [(.int (43 : Int32)), (.int (47 : Int32)), (.int (61 : Int32)), (.int (45 : Int32)), (.int (124 : Int32)), (.int (46 : Int32)), (.int (95 : Int32)), (.int (35 : Int32))] (.int (0 : Int32))) :
    MetFree l (⟨"java/lang/StringLatin1", "indexOf", "([BIII)I"⟩ : MethodName) (head1 (Jvm.Cond.code (⟨"java/lang/StringLatin1", "indexOf", "([BIII)I"⟩ : MethodName) jdk_43_method_22_code 4 (some .int) :: ws) ({ frames := 1, cells := 0, slots := 0, locals := 17 } : Room)) (fun aA UA => aA = #[(.ref d), (.int (35 : Int32)), (.int (0 : Int32)), (.int (8 : Int32))] ∧ Z.Warmed39 UA.vm ∧ UA.heap = h0) (fun _ _ _ _ _ => True) (fun _ UA oA UB => ∃ rV LE, oA = .returned rV ∧ QrmIf35 Z d kd h0 n0 rV UB.heap LE ∧ FrameEnd UA oA UB LE ({ frames := 1, cells := 0, slots := 0, locals := 17 } : Room).cells ({ frames := 1, cells := 0, slots := 0, locals := 17 } : Room).slots) := by
  refine MetFree.of_bodySF (plainFor_of_name pn_0) hisR ?_
  intro p e s m args below meth c s₁ Bd hml0 hP hK
  obtain ⟨rfl, hZ, hh⟩ := hP
  have hx := Bd.exec
  have hby := Bd.bytes
  have hml : c.maxLocals = 4 := hml0
  have hown : s.vm.findClass "java/lang/StringLatin1" = some m.cls := findClass_of_methodNamed Bd.named
  have hnm := (name_of_methodNamed Bd.named Bd.method).1
  have hlk := Bd.notSynchronized
  have X0 : Stand p l e ({ frames := 1, cells := 0, slots := 0, locals := 17 } : Room) s m #[(.ref d), (.int (35 : Int32)), (.int (0 : Int32)), (.int (8 : Int32))] below meth c s₁ [] 0 0 := Stand.of_body Bd
  have e0 : s₁.heap = h0 := by rw [← hh, Bd.state]; rfl
  have N0 := Fr.nil n0
  show Go p e below s (QrmIf35 Z d kd h0 n0) ({ frames := 1, cells := 0, slots := 0, locals := 17 } : Room).cells ({ frames := 1, cells := 0, slots := 0, locals := 17 } : Room).slots s₁ (entryFrame m #[(.ref d), (.int (35 : Int32)), (.int (0 : Int32)), (.int (8 : Int32))] 4)
  refine Go.eq (ef_rmIf35 m d) ?_
  show Go p e below s _ _ _ s₁ (mkF m 0 #[.val (.ref d), .val (.int (35 : Int32)), .val (.int (0 : Int32)), .val (.int (8 : Int32))] [])
  refine Go.st (fun _ => XS.iloadN X0.here hx rfl (hb hby d19_0) rfl) ?_
  show Go p e below s _ _ _ s₁ (mkF m 1 #[.val (.ref d), .val (.int (35 : Int32)), .val (.int (0 : Int32)), .val (.int (8 : Int32))] [(.int (35 : Int32))])
  obtain ⟨_, _, ⟨T_1, L_1, kc_1, nc_1⟩, -, X_1, ⟨Lc_1, hQ_1, l_1, y_1, z_1⟩, st_1⟩ := Jvm.LawKit.callS X0 hx (y := (⟨"java/lang/StringLatin1", "canEncode", "(I)Z"⟩ : MethodName)) hown (mvT hZ (hw _ (List.mem_of_getElem? (i := 91) rfl))) (mvT hZ (hw _ (List.mem_of_getElem? (i := 92) rfl))) (mvT hZ (hw _ (List.mem_of_getElem? (i := 13) rfl))) (mvT hZ (hw _ (List.mem_of_getElem? (i := 93) rfl))) (by decide) (backOf (W := 0) (rmCe35 l Z a0 hw []  h0 n0 Z0 ) hZ (hw _ (List.mem_of_getElem? (i := 93) rfl)) (hw _ (List.mem_of_getElem? (i := 13) rfl)) (by decide) (by decide)) (g := (mkF m 1 #[.val (.ref d), .val (.int (35 : Int32)), .val (.int (0 : Int32)), .val (.int (8 : Int32))] [(.int (35 : Int32))])) rfl (by rw [hml]; rfl) (argsL := [(.int (35 : Int32))]) (rest := []) (lenOf pd_7 rfl) rfl (by show 2 * 0 + _ ≤ _; exact Nat.le_of_eq rfl) (hb hby d19_1) (fun _ _ => ⟨rfl, e0, (by decide : 0 + 0 ≤ _), (by decide : 0 + 0 ≤ _)⟩)
  dsimp only [Pt.U, Pt.locs, Pt.cells, Pt.slots] at X_1 l_1 y_1 z_1 st_1 hQ_1
  obtain rfl : kc_1 = 0 := y_1
  obtain rfl : nc_1 = 0 := z_1
  obtain ⟨h_1, e_1⟩ : ∃ hh, T_1.heap = hh := ⟨_, rfl⟩
  rw [e_1] at hQ_1
  obtain ⟨rfl, N_1q, sm_1⟩ := hQ_1
  have N_1 : Fr n0 L_1 := by rw [l_1]; exact Fr.app N0 N_1q
  refine Go.st st_1 ?_
  rw [sm_1] at e_1
  show Go p e below s _ _ _ T_1 (mkF m 4 #[.val (.ref d), .val (.int (35 : Int32)), .val (.int (0 : Int32)), .val (.int (8 : Int32))] [(.int (1 : Int32))])
  refine Go.st (fun _ => XS.ifYes X_1.here hx rfl (pc0 := 4) (pc' := 9) rfl (hb hby d19_4) rfl ((if0 _ _).trans (feq (by decide : ¬ ((1 : Int32) = (0 : Int32)))).2) (by decide) (by decide)) ?_
  show Go p e below s _ _ _ T_1 (mkF m 9 #[.val (.ref d), .val (.int (35 : Int32)), .val (.int (0 : Int32)), .val (.int (8 : Int32))] [])
  refine Go.st (fun _ => XS.iloadN X_1.here hx rfl (hb hby d19_9) rfl) ?_
  show Go p e below s _ _ _ T_1 (mkF m 10 #[.val (.ref d), .val (.int (35 : Int32)), .val (.int (0 : Int32)), .val (.int (8 : Int32))] [(.int (0 : Int32))])
  refine Go.st (fun _ => XS.iconst X_1.here hx rfl (hb hby d19_10)) ?_
  show Go p e below s _ _ _ T_1 (mkF m 11 #[.val (.ref d), .val (.int (35 : Int32)), .val (.int (0 : Int32)), .val (.int (8 : Int32))] [(.int (0 : Int32)), (.int (0 : Int32))])
  obtain ⟨_, _, ⟨T_2, L_2, kc_2, nc_2⟩, -, X_2, ⟨Lc_2, hQ_2, l_2, y_2, z_2⟩, st_2⟩ := Jvm.LawKit.callS X_1 hx (y := (⟨"java/lang/Math", "max", "(II)I"⟩ : MethodName)) hown (mvT hZ (hw _ (List.mem_of_getElem? (i := 94) rfl))) (mvT hZ (hw _ (List.mem_of_getElem? (i := 95) rfl))) (mvT hZ (hw _ (List.mem_of_getElem? (i := 96) rfl))) (mvT hZ (hw _ (List.mem_of_getElem? (i := 97) rfl))) (by decide) (backOf (W := 0) (rmMax l Z a0 hw []  h0 n0 Z0 ) hZ (hw _ (List.mem_of_getElem? (i := 97) rfl)) (hw _ (List.mem_of_getElem? (i := 96) rfl)) (by decide) (by decide)) (g := (mkF m 11 #[.val (.ref d), .val (.int (35 : Int32)), .val (.int (0 : Int32)), .val (.int (8 : Int32))] [(.int (0 : Int32)), (.int (0 : Int32))])) rfl (by rw [hml]; rfl) (argsL := [(.int (0 : Int32)), (.int (0 : Int32))]) (rest := []) (lenOf pd_8 rfl) rfl (by show 2 * 0 + _ ≤ _; exact Nat.le_of_eq rfl) (hb hby d19_11) (fun _ _ => ⟨rfl, e_1, (by decide : 0 + 0 ≤ _), (by decide : 0 + 0 ≤ _)⟩)
  dsimp only [Pt.U, Pt.locs, Pt.cells, Pt.slots] at X_2 l_2 y_2 z_2 st_2 hQ_2
  obtain rfl : kc_2 = 0 := y_2
  obtain rfl : nc_2 = 0 := z_2
  obtain ⟨h_2, e_2⟩ : ∃ hh, T_2.heap = hh := ⟨_, rfl⟩
  rw [e_2] at hQ_2
  obtain ⟨rfl, N_2q, sm_2⟩ := hQ_2
  have N_2 : Fr n0 L_2 := by rw [l_2]; exact Fr.app N_1 N_2q
  refine Go.st st_2 ?_
  rw [sm_2] at e_2
  show Go p e below s _ _ _ T_2 (mkF m 14 #[.val (.ref d), .val (.int (35 : Int32)), .val (.int (0 : Int32)), .val (.int (8 : Int32))] [(.int (0 : Int32))])
  refine Go.st (fun _ => XS.istoreN X_2.here hx rfl (hb hby d19_14) rfl (l' := #[.val (.ref d), .val (.int (35 : Int32)), .val (.int (0 : Int32)), .val (.int (8 : Int32))]) rfl) ?_
  show Go p e below s _ _ _ T_2 (mkF m 15 #[.val (.ref d), .val (.int (35 : Int32)), .val (.int (0 : Int32)), .val (.int (8 : Int32))] [])
  refine Go.st (fun _ => XS.iloadN X_2.here hx rfl (hb hby d19_15) rfl) ?_
  show Go p e below s _ _ _ T_2 (mkF m 16 #[.val (.ref d), .val (.int (35 : Int32)), .val (.int (0 : Int32)), .val (.int (8 : Int32))] [(.int (8 : Int32))])
  refine Go.st (fun _ => XS.aloadN X_2.here hx rfl (hb hby d19_16) rfl rfl) ?_
  show Go p e below s _ _ _ T_2 (mkF m 17 #[.val (.ref d), .val (.int (35 : Int32)), .val (.int (0 : Int32)), .val (.int (8 : Int32))] [(.ref d), (.int (8 : Int32))])
  obtain ⟨cl_3, Ar_3, q_3, S_3, M_3, H_3, G_3⟩ := id V_d
  refine Go.st (fun tG => X_2.arraylength hx (by rw [e_2]; exact Ar_3.1) (State.isArrayOf_alike hZ.alike Ar_3.2.1) (g := (mkF m 17 #[.val (.ref d), .val (.int (35 : Int32)), .val (.int (0 : Int32)), .val (.int (8 : Int32))] [(.ref d), (.int (8 : Int32))])) rfl rfl (hb hby d19_17) tG) ?_
  rw [len_of S_3 M_3]
  show Go p e below s _ _ _ T_2 (mkF m 18 #[.val (.ref d), .val (.int (35 : Int32)), .val (.int (0 : Int32)), .val (.int (8 : Int32))] [(.int (8 : Int32)), (.int (8 : Int32))])
  obtain ⟨_, _, ⟨T_4, L_4, kc_4, nc_4⟩, -, X_4, ⟨Lc_4, hQ_4, l_4, y_4, z_4⟩, st_4⟩ := Jvm.LawKit.callS X_2 hx (y := (⟨"java/lang/Math", "min", "(II)I"⟩ : MethodName)) hown (mvT hZ (hw _ (List.mem_of_getElem? (i := 98) rfl))) (mvT hZ (hw _ (List.mem_of_getElem? (i := 99) rfl))) (mvT hZ (hw _ (List.mem_of_getElem? (i := 96) rfl))) (mvT hZ (hw _ (List.mem_of_getElem? (i := 100) rfl))) (by decide) (backOf (W := 0) (rmMin l Z a0 hw []  h0 n0 Z0 ) hZ (hw _ (List.mem_of_getElem? (i := 100) rfl)) (hw _ (List.mem_of_getElem? (i := 96) rfl)) (by decide) (by decide)) (g := (mkF m 18 #[.val (.ref d), .val (.int (35 : Int32)), .val (.int (0 : Int32)), .val (.int (8 : Int32))] [(.int (8 : Int32)), (.int (8 : Int32))])) rfl (by rw [hml]; rfl) (argsL := [(.int (8 : Int32)), (.int (8 : Int32))]) (rest := []) (lenOf pd_8 rfl) rfl (by show 2 * 0 + _ ≤ _; exact Nat.le_of_eq rfl) (hb hby d19_18) (fun _ _ => ⟨rfl, e_2, (by decide : 0 + 0 ≤ _), (by decide : 0 + 0 ≤ _)⟩)
  dsimp only [Pt.U, Pt.locs, Pt.cells, Pt.slots] at X_4 l_4 y_4 z_4 st_4 hQ_4
  obtain rfl : kc_4 = 0 := y_4
  obtain rfl : nc_4 = 0 := z_4
  obtain ⟨h_4, e_4⟩ : ∃ hh, T_4.heap = hh := ⟨_, rfl⟩
  rw [e_4] at hQ_4
  obtain ⟨rfl, N_4q, sm_4⟩ := hQ_4
  have N_4 : Fr n0 L_4 := by rw [l_4]; exact Fr.app N_2 N_4q
  refine Go.st st_4 ?_
  rw [sm_4] at e_4
  show Go p e below s _ _ _ T_4 (mkF m 21 #[.val (.ref d), .val (.int (35 : Int32)), .val (.int (0 : Int32)), .val (.int (8 : Int32))] [(.int (8 : Int32))])
  refine Go.st (fun _ => XS.istoreN X_4.here hx rfl (hb hby d19_21) rfl (l' := #[.val (.ref d), .val (.int (35 : Int32)), .val (.int (0 : Int32)), .val (.int (8 : Int32))]) rfl) ?_
  show Go p e below s _ _ _ T_4 (mkF m 22 #[.val (.ref d), .val (.int (35 : Int32)), .val (.int (0 : Int32)), .val (.int (8 : Int32))] [])
  refine Go.st (fun _ => XS.iloadN X_4.here hx rfl (hb hby d19_22) rfl) ?_
  show Go p e below s _ _ _ T_4 (mkF m 23 #[.val (.ref d), .val (.int (35 : Int32)), .val (.int (0 : Int32)), .val (.int (8 : Int32))] [(.int (0 : Int32))])
  refine Go.st (fun _ => XS.iloadN X_4.here hx rfl (hb hby d19_23) rfl) ?_
  show Go p e below s _ _ _ T_4 (mkF m 24 #[.val (.ref d), .val (.int (35 : Int32)), .val (.int (0 : Int32)), .val (.int (8 : Int32))] [(.int (8 : Int32)), (.int (0 : Int32))])
  refine Go.st (fun _ => XS.icmpYes X_4.here hx rfl (pc0 := 24) (pc' := 29) rfl (hb hby d19_24) rfl (tlt (by decide : (0 : Int32) < (8 : Int32))).1 (by decide) (by decide)) ?_
  show Go p e below s _ _ _ T_4 (mkF m 29 #[.val (.ref d), .val (.int (35 : Int32)), .val (.int (0 : Int32)), .val (.int (8 : Int32))] [])
  refine Go.st (fun _ => XS.aloadN X_4.here hx rfl (hb hby d19_29) rfl rfl) ?_
  show Go p e below s _ _ _ T_4 (mkF m 30 #[.val (.ref d), .val (.int (35 : Int32)), .val (.int (0 : Int32)), .val (.int (8 : Int32))] [(.ref d)])
  refine Go.st (fun _ => XS.iloadN X_4.here hx rfl (hb hby d19_30) rfl) ?_
  show Go p e below s _ _ _ T_4 (mkF m 31 #[.val (.ref d), .val (.int (35 : Int32)), .val (.int (0 : Int32)), .val (.int (8 : Int32))] [(.int (35 : Int32)), (.ref d)])
  refine Go.st (fun _ => XS.iloadN X_4.here hx rfl (hb hby d19_31) rfl) ?_
  show Go p e below s _ _ _ T_4 (mkF m 32 #[.val (.ref d), .val (.int (35 : Int32)), .val (.int (0 : Int32)), .val (.int (8 : Int32))] [(.int (0 : Int32)), (.int (35 : Int32)), (.ref d)])
  refine Go.st (fun _ => XS.iloadN X_4.here hx rfl (hb hby d19_32) rfl) ?_
  show Go p e below s _ _ _ T_4 (mkF m 33 #[.val (.ref d), .val (.int (35 : Int32)), .val (.int (0 : Int32)), .val (.int (8 : Int32))] [(.int (8 : Int32)), (.int (0 : Int32)), (.int (35 : Int32)), (.ref d)])
  obtain ⟨_, _, ⟨T_5, L_5, kc_5, nc_5⟩, -, X_5, ⟨Lc_5, hQ_5, l_5, y_5, z_5⟩, st_5⟩ := Jvm.LawKit.callS X_4 hx (y := (⟨"java/lang/StringLatin1", "indexOfChar", "([BIII)I"⟩ : MethodName)) hown (mvT hZ (hw _ (List.mem_of_getElem? (i := 101) rfl))) (mvT hZ (hw _ (List.mem_of_getElem? (i := 102) rfl))) (mvT hZ (hw _ (List.mem_of_getElem? (i := 13) rfl))) (mvT hZ (hw _ (List.mem_of_getElem? (i := 103) rfl))) (by decide) (backOf (W := 0) (rmIc35 l Z a0 hw [] d kd h0 n0 Z0 V_d) hZ (hw _ (List.mem_of_getElem? (i := 103) rfl)) (hw _ (List.mem_of_getElem? (i := 13) rfl)) (by decide) (by decide)) (g := (mkF m 33 #[.val (.ref d), .val (.int (35 : Int32)), .val (.int (0 : Int32)), .val (.int (8 : Int32))] [(.int (8 : Int32)), (.int (0 : Int32)), (.int (35 : Int32)), (.ref d)])) rfl (by rw [hml]; rfl) (argsL := [(.ref d), (.int (35 : Int32)), (.int (0 : Int32)), (.int (8 : Int32))]) (rest := []) (lenOf pd_9 rfl) rfl (by show 2 * 0 + _ ≤ _; exact Nat.le_of_eq rfl) (hb hby d19_33) (fun _ _ => ⟨rfl, e_4, (by decide : 0 + 0 ≤ _), (by decide : 0 + 0 ≤ _)⟩)
  dsimp only [Pt.U, Pt.locs, Pt.cells, Pt.slots] at X_5 l_5 y_5 z_5 st_5 hQ_5
  obtain rfl : kc_5 = 0 := y_5
  obtain rfl : nc_5 = 0 := z_5
  obtain ⟨h_5, e_5⟩ : ∃ hh, T_5.heap = hh := ⟨_, rfl⟩
  rw [e_5] at hQ_5
  obtain ⟨rfl, N_5q, sm_5⟩ := hQ_5
  have N_5 : Fr n0 L_5 := by rw [l_5]; exact Fr.app N_4 N_5q
  refine Go.st st_5 ?_
  rw [sm_5] at e_5
  show Go p e below s _ _ _ T_5 (mkF m 36 #[.val (.ref d), .val (.int (35 : Int32)), .val (.int (0 : Int32)), .val (.int (8 : Int32))] [(.int (7 : Int32))])
  exact Go.retI X_5 hx hlk Bd.returns (hb hby d19_36) (by rw [e_5]; exact ⟨rfl, N_5, rfl⟩) (by decide) (by decide)
theorem ef_rmIi35 (m : MethodId) (a : Addr) : entryFrame m #[(.ref a), (.int (35 : Int32)), (.int (0 : Int32))] 3 = mkF m 0 #[.val (.ref a), .val (.int (35 : Int32)), .val (.int (0 : Int32))] [] := by first | (simp [entryFrame, mkF, argsToLocals, Value.category]; done) | rfl
def QrmIi35 (Z : State) (a : Addr) (cs : Int32) (d : Addr) (kd : ClassId) (h0 : Heap) (n0 : Nat) (rV : Option Value) (hE : Heap) (LE : List Loc) : Prop := rV = some (.int (7 : Int32)) ∧ Fr n0 LE ∧ hE = h0
set_option maxRecDepth 65536 in
set_option maxHeartbeats 40000000 in
theorem rmIi35 (l : Launch) (Z : State) (a0 : Array Value) (hw : ∀ d ∈ tables_1, d.before a0 Z = true) (ws : List Jvm.Cond) (a : Addr) (cs : Int32) (d : Addr) (kd : ClassId) (h0 : Heap) (n0 : Nat) (Z0 : n0 ≤ h0.size) (S_COMPACT_STRINGS : Sta Z h0 "java/lang/String" "COMPACT_STRINGS" "Z" (.int cs)) (hcs : ¬ (cs = (0 : Int32))) (E_a : Exa Z h0 a "java/lang/String") (F_coder_a : Fld Z h0 a "java/lang/String" "coder" "B" (.int (0 : Int32))) (F_value_a : Fld Z h0 a "java/lang/String" "value" "[B" (.ref d)) (V_d : Arv Z h0 d kd .byte (8 : Int32) [(.int (43 : Int32)), (.int (47 : Int32)), (.int (61 : Int32)), (.int (45 : Int32)), (.int (124 : Int32)), (.int (46 : Int32)), (.int (95 : Int32)), (.int (35 : Int32))] (.int (0 : Int32))) :
    MetFree l (⟨"java/lang/String", "indexOf", "(II)I"⟩ : MethodName) (head1 (Jvm.Cond.code (⟨"java/lang/String", "indexOf", "(II)I"⟩ : MethodName) jdk_42_method_80_code 3 (some .int) :: ws) ({ frames := 2, cells := 0, slots := 0, locals := 32 } : Room)) (fun aA UA => aA = #[(.ref a), (.int (35 : Int32)), (.int (0 : Int32))] ∧ Z.Warmed39 UA.vm ∧ UA.heap = h0) (fun _ _ _ _ _ => True) (fun _ UA oA UB => ∃ rV LE, oA = .returned rV ∧ QrmIi35 Z a cs d kd h0 n0 rV UB.heap LE ∧ FrameEnd UA oA UB LE ({ frames := 2, cells := 0, slots := 0, locals := 32 } : Room).cells ({ frames := 2, cells := 0, slots := 0, locals := 32 } : Room).slots) := by
  refine MetFree.of_bodySF (plainFor_of_name pn_1) hisR ?_
  intro p e s m args below meth c s₁ Bd hml0 hP hK
  obtain ⟨rfl, hZ, hh⟩ := hP
  have hx := Bd.exec
  have hby := Bd.bytes
  have hml : c.maxLocals = 3 := hml0
  have hown : s.vm.findClass "java/lang/String" = some m.cls := findClass_of_methodNamed Bd.named
  have hnm := (name_of_methodNamed Bd.named Bd.method).1
  have hlk := Bd.notSynchronized
  have X0 : Stand p l e ({ frames := 2, cells := 0, slots := 0, locals := 32 } : Room) s m #[(.ref a), (.int (35 : Int32)), (.int (0 : Int32))] below meth c s₁ [] 0 0 := Stand.of_body Bd
  have e0 : s₁.heap = h0 := by rw [← hh, Bd.state]; rfl
  have N0 := Fr.nil n0
  show Go p e below s (QrmIi35 Z a cs d kd h0 n0) ({ frames := 2, cells := 0, slots := 0, locals := 32 } : Room).cells ({ frames := 2, cells := 0, slots := 0, locals := 32 } : Room).slots s₁ (entryFrame m #[(.ref a), (.int (35 : Int32)), (.int (0 : Int32))] 3)
  refine Go.eq (ef_rmIi35 m a) ?_
  show Go p e below s _ _ _ s₁ (mkF m 0 #[.val (.ref a), .val (.int (35 : Int32)), .val (.int (0 : Int32))] [])
  refine Go.st (fun _ => XS.aloadN X0.here hx rfl (hb hby d18_0) rfl rfl) ?_
  show Go p e below s _ _ _ s₁ (mkF m 1 #[.val (.ref a), .val (.int (35 : Int32)), .val (.int (0 : Int32))] [(.ref a)])
  obtain ⟨cq_1, kq_1, q_1a, q_1b, q_1c⟩ := isOf hZ e0 E_a
  obtain ⟨_, _, ⟨T_1, L_1, kc_1, nc_1⟩, -, X_1, ⟨Lc_1, hQ_1, l_1, y_1, z_1⟩, st_1⟩ := X0.virtualBack hx (y := (⟨"java/lang/String", "isLatin1", "()Z"⟩ : MethodName)) (z := (⟨"java/lang/String", "isLatin1", "()Z"⟩ : MethodName)) hown (mvT hZ (hw _ (List.mem_of_getElem? (i := 55) rfl))) (mvT hZ (hw _ (List.mem_of_getElem? (i := 56) rfl))) (notFace_of_selects (args := #[]) (mvT hZ (hw _ (List.mem_of_getElem? (i := 58) rfl)))) (mvT hZ (hw _ (List.mem_of_getElem? (i := 58) rfl))) (mvT hZ (hw _ (List.mem_of_getElem? (i := 57) rfl))) (by decide) (backOf (W := 0) (rmLat l Z a0 hw [] a cs h0 n0 Z0 S_COMPACT_STRINGS hcs F_coder_a) hZ (hw _ (List.mem_of_getElem? (i := 59) rfl)) (hw _ (List.mem_of_getElem? (i := 8) rfl)) (by decide) (by decide)) q_1a q_1c (g := (mkF m 1 #[.val (.ref a), .val (.int (35 : Int32)), .val (.int (0 : Int32))] [(.ref a)])) rfl (by rw [hml]; rfl) (Steps.refl _) (argsL := []) (rest := []) (lenOf pd_5 rfl) rfl (by show 2 * 0 + _ ≤ _; exact Nat.le_of_eq rfl) (hb hby d18_1) (fun _ _ => ⟨rfl, e0, (by decide : 0 + 0 ≤ _), (by decide : 0 + 0 ≤ _)⟩)
  dsimp only [Pt.U, Pt.locs, Pt.cells, Pt.slots] at X_1 l_1 y_1 z_1 st_1 hQ_1
  obtain rfl : kc_1 = 0 := y_1
  obtain rfl : nc_1 = 0 := z_1
  obtain ⟨h_1, e_1⟩ : ∃ hh, T_1.heap = hh := ⟨_, rfl⟩
  rw [e_1] at hQ_1
  obtain ⟨rfl, N_1q, sm_1⟩ := hQ_1
  have N_1 : Fr n0 L_1 := by rw [l_1]; exact Fr.app N0 N_1q
  refine Go.st (fun _ kk => st_1.trans kk) ?_
  rw [sm_1] at e_1
  show Go p e below s _ _ _ T_1 (mkF m 4 #[.val (.ref a), .val (.int (35 : Int32)), .val (.int (0 : Int32))] [(.int (1 : Int32))])
  refine Go.st (fun _ => XS.ifNo X_1.here hx rfl (hb hby d18_4) rfl ((if0 _ _).trans (feq (by decide : ¬ ((1 : Int32) = (0 : Int32)))).1)) ?_
  show Go p e below s _ _ _ T_1 (mkF m 7 #[.val (.ref a), .val (.int (35 : Int32)), .val (.int (0 : Int32))] [])
  refine Go.st (fun _ => XS.aloadN X_1.here hx rfl (hb hby d18_7) rfl rfl) ?_
  show Go p e below s _ _ _ T_1 (mkF m 8 #[.val (.ref a), .val (.int (35 : Int32)), .val (.int (0 : Int32))] [(.ref a)])
  obtain ⟨T_2, X_2, e_2, st_2⟩ := getF X_1 hx hZ hown (host := "") (Or.inl (hw _ (List.mem_of_getElem? (i := 28) rfl))) Via.refl e_1 F_value_a (g := (mkF m 8 #[.val (.ref a), .val (.int (35 : Int32)), .val (.int (0 : Int32))] [(.ref a)])) rfl rfl (hb hby d18_8)
  refine Go.st st_2 ?_
  show Go p e below s _ _ _ T_2 (mkF m 11 #[.val (.ref a), .val (.int (35 : Int32)), .val (.int (0 : Int32))] [(.ref d)])
  refine Go.st (fun _ => XS.iloadN X_2.here hx rfl (hb hby d18_11) rfl) ?_
  show Go p e below s _ _ _ T_2 (mkF m 12 #[.val (.ref a), .val (.int (35 : Int32)), .val (.int (0 : Int32))] [(.int (35 : Int32)), (.ref d)])
  refine Go.st (fun _ => XS.iloadN X_2.here hx rfl (hb hby d18_12) rfl) ?_
  show Go p e below s _ _ _ T_2 (mkF m 13 #[.val (.ref a), .val (.int (35 : Int32)), .val (.int (0 : Int32))] [(.int (0 : Int32)), (.int (35 : Int32)), (.ref d)])
  refine Go.st (fun _ => XS.aloadN X_2.here hx rfl (hb hby d18_13) rfl rfl) ?_
  show Go p e below s _ _ _ T_2 (mkF m 14 #[.val (.ref a), .val (.int (35 : Int32)), .val (.int (0 : Int32))] [(.ref a), (.int (0 : Int32)), (.int (35 : Int32)), (.ref d)])
  obtain ⟨cq_3, kq_3, q_3a, q_3b, q_3c⟩ := isOf hZ e_2 E_a
  obtain ⟨_, _, ⟨T_3, L_3, kc_3, nc_3⟩, -, X_3, ⟨Lc_3, hQ_3, l_3, y_3, z_3⟩, st_3⟩ := X_2.virtualBack hx (y := (⟨"java/lang/String", "length", "()I"⟩ : MethodName)) (z := (⟨"java/lang/String", "length", "()I"⟩ : MethodName)) hown (mvT hZ (hw _ (List.mem_of_getElem? (i := 87) rfl))) (mvT hZ (hw _ (List.mem_of_getElem? (i := 41) rfl))) (notFace_of_selects (args := #[]) (mvT hZ (hw _ (List.mem_of_getElem? (i := 43) rfl)))) (mvT hZ (hw _ (List.mem_of_getElem? (i := 43) rfl))) (mvT hZ (hw _ (List.mem_of_getElem? (i := 42) rfl))) (by decide) (backOf (W := 3) (rmLen8 l Z a0 hw [] a cs d kd [(.int (43 : Int32)), (.int (47 : Int32)), (.int (61 : Int32)), (.int (45 : Int32)), (.int (124 : Int32)), (.int (46 : Int32)), (.int (95 : Int32)), (.int (35 : Int32))] h0 n0 Z0 S_COMPACT_STRINGS hcs E_a F_coder_a F_value_a V_d) hZ (hw _ (List.mem_of_getElem? (i := 44) rfl)) (hw _ (List.mem_of_getElem? (i := 8) rfl)) (by decide) (by decide)) q_3a q_3c (g := (mkF m 14 #[.val (.ref a), .val (.int (35 : Int32)), .val (.int (0 : Int32))] [(.ref a), (.int (0 : Int32)), (.int (35 : Int32)), (.ref d)])) rfl (by rw [hml]; rfl) (Steps.refl _) (argsL := []) (rest := [(.int (0 : Int32)), (.int (35 : Int32)), (.ref d)]) (lenOf pd_11 rfl) rfl (by show 2 * 0 + _ ≤ _; exact Nat.le_of_eq rfl) (hb hby d18_14) (fun _ _ => ⟨rfl, e_2, (by decide : 0 + 0 ≤ _), (by decide : 0 + 0 ≤ _)⟩)
  dsimp only [Pt.U, Pt.locs, Pt.cells, Pt.slots] at X_3 l_3 y_3 z_3 st_3 hQ_3
  obtain rfl : kc_3 = 0 := y_3
  obtain rfl : nc_3 = 0 := z_3
  obtain ⟨h_3, e_3⟩ : ∃ hh, T_3.heap = hh := ⟨_, rfl⟩
  rw [e_3] at hQ_3
  obtain ⟨rfl, N_3q, sm_3⟩ := hQ_3
  have N_3 : Fr n0 L_3 := by rw [l_3]; exact Fr.app N_1 N_3q
  refine Go.st (fun _ kk => st_3.trans kk) ?_
  rw [sm_3] at e_3
  show Go p e below s _ _ _ T_3 (mkF m 17 #[.val (.ref a), .val (.int (35 : Int32)), .val (.int (0 : Int32))] [(.int (8 : Int32)), (.int (0 : Int32)), (.int (35 : Int32)), (.ref d)])
  obtain ⟨_, _, ⟨T_4, L_4, kc_4, nc_4⟩, -, X_4, ⟨Lc_4, hQ_4, l_4, y_4, z_4⟩, st_4⟩ := Jvm.LawKit.callS X_3 hx (y := (⟨"java/lang/StringLatin1", "indexOf", "([BIII)I"⟩ : MethodName)) hown (mvT hZ (hw _ (List.mem_of_getElem? (i := 88) rfl))) (mvT hZ (hw _ (List.mem_of_getElem? (i := 89) rfl))) (mvT hZ (hw _ (List.mem_of_getElem? (i := 13) rfl))) (mvT hZ (hw _ (List.mem_of_getElem? (i := 90) rfl))) (by decide) (backOf (W := 0) (rmIf35 l Z a0 hw [] d kd h0 n0 Z0 V_d) hZ (hw _ (List.mem_of_getElem? (i := 90) rfl)) (hw _ (List.mem_of_getElem? (i := 13) rfl)) (by decide) (by decide)) (g := (mkF m 17 #[.val (.ref a), .val (.int (35 : Int32)), .val (.int (0 : Int32))] [(.int (8 : Int32)), (.int (0 : Int32)), (.int (35 : Int32)), (.ref d)])) rfl (by rw [hml]; rfl) (argsL := [(.ref d), (.int (35 : Int32)), (.int (0 : Int32)), (.int (8 : Int32))]) (rest := []) (lenOf pd_9 rfl) rfl (by show 2 * 0 + _ ≤ _; exact Nat.le_of_eq rfl) (hb hby d18_17) (fun _ _ => ⟨rfl, e_3, (by decide : 0 + 0 ≤ _), (by decide : 0 + 0 ≤ _)⟩)
  dsimp only [Pt.U, Pt.locs, Pt.cells, Pt.slots] at X_4 l_4 y_4 z_4 st_4 hQ_4
  obtain rfl : kc_4 = 0 := y_4
  obtain rfl : nc_4 = 0 := z_4
  obtain ⟨h_4, e_4⟩ : ∃ hh, T_4.heap = hh := ⟨_, rfl⟩
  rw [e_4] at hQ_4
  obtain ⟨rfl, N_4q, sm_4⟩ := hQ_4
  have N_4 : Fr n0 L_4 := by rw [l_4]; exact Fr.app N_3 N_4q
  refine Go.st st_4 ?_
  rw [sm_4] at e_4
  show Go p e below s _ _ _ T_4 (mkF m 20 #[.val (.ref a), .val (.int (35 : Int32)), .val (.int (0 : Int32))] [(.int (7 : Int32))])
  refine Go.st (fun _ => XS.goto X_4.here hx rfl (pc0 := 20) (pc' := 36) rfl (hb hby d18_20) (by decide) (by decide)) ?_
  show Go p e below s _ _ _ T_4 (mkF m 36 #[.val (.ref a), .val (.int (35 : Int32)), .val (.int (0 : Int32))] [(.int (7 : Int32))])
  exact Go.retI X_4 hx hlk Bd.returns (hb hby d18_36) (by rw [e_4]; exact ⟨rfl, N_4, rfl⟩) (by decide) (by decide)
theorem ef_rmIo35 (m : MethodId) (a : Addr) : entryFrame m #[(.ref a), (.int (35 : Int32))] 2 = mkF m 0 #[.val (.ref a), .val (.int (35 : Int32))] [] := by first | (simp [entryFrame, mkF, argsToLocals, Value.category]; done) | rfl
def QrmIo35 (Z : State) (a : Addr) (cs : Int32) (d : Addr) (kd : ClassId) (h0 : Heap) (n0 : Nat) (rV : Option Value) (hE : Heap) (LE : List Loc) : Prop := rV = some (.int (7 : Int32)) ∧ Fr n0 LE ∧ hE = h0
set_option maxRecDepth 65536 in
set_option maxHeartbeats 40000000 in
theorem rmIo35 (l : Launch) (Z : State) (a0 : Array Value) (hw : ∀ d ∈ tables_1, d.before a0 Z = true) (ws : List Jvm.Cond) (a : Addr) (cs : Int32) (d : Addr) (kd : ClassId) (h0 : Heap) (n0 : Nat) (Z0 : n0 ≤ h0.size) (S_COMPACT_STRINGS : Sta Z h0 "java/lang/String" "COMPACT_STRINGS" "Z" (.int cs)) (hcs : ¬ (cs = (0 : Int32))) (E_a : Exa Z h0 a "java/lang/String") (F_coder_a : Fld Z h0 a "java/lang/String" "coder" "B" (.int (0 : Int32))) (F_value_a : Fld Z h0 a "java/lang/String" "value" "[B" (.ref d)) (V_d : Arv Z h0 d kd .byte (8 : Int32) [(.int (43 : Int32)), (.int (47 : Int32)), (.int (61 : Int32)), (.int (45 : Int32)), (.int (124 : Int32)), (.int (46 : Int32)), (.int (95 : Int32)), (.int (35 : Int32))] (.int (0 : Int32))) :
    MetFree l (⟨"java/lang/String", "indexOf", "(I)I"⟩ : MethodName) (head1 (Jvm.Cond.code (⟨"java/lang/String", "indexOf", "(I)I"⟩ : MethodName) jdk_42_method_79_code 2 (some .int) :: ws) ({ frames := 3, cells := 0, slots := 0, locals := 46 } : Room)) (fun aA UA => aA = #[(.ref a), (.int (35 : Int32))] ∧ Z.Warmed39 UA.vm ∧ UA.heap = h0) (fun _ _ _ _ _ => True) (fun _ UA oA UB => ∃ rV LE, oA = .returned rV ∧ QrmIo35 Z a cs d kd h0 n0 rV UB.heap LE ∧ FrameEnd UA oA UB LE ({ frames := 3, cells := 0, slots := 0, locals := 46 } : Room).cells ({ frames := 3, cells := 0, slots := 0, locals := 46 } : Room).slots) := by
  refine MetFree.of_bodySF (plainFor_of_name pn_1) hisR ?_
  intro p e s m args below meth c s₁ Bd hml0 hP hK
  obtain ⟨rfl, hZ, hh⟩ := hP
  have hx := Bd.exec
  have hby := Bd.bytes
  have hml : c.maxLocals = 2 := hml0
  have hown : s.vm.findClass "java/lang/String" = some m.cls := findClass_of_methodNamed Bd.named
  have hnm := (name_of_methodNamed Bd.named Bd.method).1
  have hlk := Bd.notSynchronized
  have X0 : Stand p l e ({ frames := 3, cells := 0, slots := 0, locals := 46 } : Room) s m #[(.ref a), (.int (35 : Int32))] below meth c s₁ [] 0 0 := Stand.of_body Bd
  have e0 : s₁.heap = h0 := by rw [← hh, Bd.state]; rfl
  have N0 := Fr.nil n0
  show Go p e below s (QrmIo35 Z a cs d kd h0 n0) ({ frames := 3, cells := 0, slots := 0, locals := 46 } : Room).cells ({ frames := 3, cells := 0, slots := 0, locals := 46 } : Room).slots s₁ (entryFrame m #[(.ref a), (.int (35 : Int32))] 2)
  refine Go.eq (ef_rmIo35 m a) ?_
  show Go p e below s _ _ _ s₁ (mkF m 0 #[.val (.ref a), .val (.int (35 : Int32))] [])
  refine Go.st (fun _ => XS.aloadN X0.here hx rfl (hb hby d17_0) rfl rfl) ?_
  show Go p e below s _ _ _ s₁ (mkF m 1 #[.val (.ref a), .val (.int (35 : Int32))] [(.ref a)])
  refine Go.st (fun _ => XS.iloadN X0.here hx rfl (hb hby d17_1) rfl) ?_
  show Go p e below s _ _ _ s₁ (mkF m 2 #[.val (.ref a), .val (.int (35 : Int32))] [(.int (35 : Int32)), (.ref a)])
  refine Go.st (fun _ => XS.iconst X0.here hx rfl (hb hby d17_2)) ?_
  show Go p e below s _ _ _ s₁ (mkF m 3 #[.val (.ref a), .val (.int (35 : Int32))] [(.int (0 : Int32)), (.int (35 : Int32)), (.ref a)])
  obtain ⟨cq_1, kq_1, q_1a, q_1b, q_1c⟩ := isOf hZ e0 E_a
  obtain ⟨_, _, ⟨T_1, L_1, kc_1, nc_1⟩, -, X_1, ⟨Lc_1, hQ_1, l_1, y_1, z_1⟩, st_1⟩ := X0.virtualBack hx (y := (⟨"java/lang/String", "indexOf", "(II)I"⟩ : MethodName)) (z := (⟨"java/lang/String", "indexOf", "(II)I"⟩ : MethodName)) hown (mvT hZ (hw _ (List.mem_of_getElem? (i := 82) rfl))) (mvT hZ (hw _ (List.mem_of_getElem? (i := 83) rfl))) (notFace_of_selects (args := #[]) (mvT hZ (hw _ (List.mem_of_getElem? (i := 85) rfl)))) (mvT hZ (hw _ (List.mem_of_getElem? (i := 85) rfl))) (mvT hZ (hw _ (List.mem_of_getElem? (i := 84) rfl))) (by decide) (backOf (W := 0) (rmIi35 l Z a0 hw [] a cs d kd h0 n0 Z0 S_COMPACT_STRINGS hcs E_a F_coder_a F_value_a V_d) hZ (hw _ (List.mem_of_getElem? (i := 86) rfl)) (hw _ (List.mem_of_getElem? (i := 8) rfl)) (by decide) (by decide)) q_1a q_1c (g := (mkF m 3 #[.val (.ref a), .val (.int (35 : Int32))] [(.int (0 : Int32)), (.int (35 : Int32)), (.ref a)])) rfl (by rw [hml]; rfl) (Steps.refl _) (argsL := [(.int (35 : Int32)), (.int (0 : Int32))]) (rest := []) (lenOf pd_8 rfl) rfl (by show 2 * 0 + _ ≤ _; exact Nat.le_of_eq rfl) (hb hby d17_3) (fun _ _ => ⟨rfl, e0, (by decide : 0 + 0 ≤ _), (by decide : 0 + 0 ≤ _)⟩)
  dsimp only [Pt.U, Pt.locs, Pt.cells, Pt.slots] at X_1 l_1 y_1 z_1 st_1 hQ_1
  obtain rfl : kc_1 = 0 := y_1
  obtain rfl : nc_1 = 0 := z_1
  obtain ⟨h_1, e_1⟩ : ∃ hh, T_1.heap = hh := ⟨_, rfl⟩
  rw [e_1] at hQ_1
  obtain ⟨rfl, N_1q, sm_1⟩ := hQ_1
  have N_1 : Fr n0 L_1 := by rw [l_1]; exact Fr.app N0 N_1q
  refine Go.st (fun _ kk => st_1.trans kk) ?_
  rw [sm_1] at e_1
  show Go p e below s _ _ _ T_1 (mkF m 6 #[.val (.ref a), .val (.int (35 : Int32))] [(.int (7 : Int32))])
  exact Go.retI X_1 hx hlk Bd.returns (hb hby d17_6) (by rw [e_1]; exact ⟨rfl, N_1, rfl⟩) (by decide) (by decide)
theorem ef_rmId35 (m : MethodId)  : entryFrame m #[(.int (35 : Int32))] 1 = mkF m 0 #[.val (.int (35 : Int32))] [] := by first | (simp [entryFrame, mkF, argsToLocals, Value.category]; done) | rfl
def QrmId35 (Z : State) (cs : Int32) (h0 : Heap) (n0 : Nat) (rV : Option Value) (hE : Heap) (LE : List Loc) : Prop := rV = some (.int (1 : Int32)) ∧ Fr n0 LE ∧ Keep h0 hE []
set_option maxRecDepth 65536 in
set_option maxHeartbeats 40000000 in
theorem rmId35 (l : Launch) (Z : State) (a0 : Array Value) (hw : ∀ d ∈ tables_1, d.before a0 Z = true) (ws : List Jvm.Cond) (cs : Int32) (h0 : Heap) (n0 : Nat) (Z0 : n0 ≤ h0.size) (S_COMPACT_STRINGS : Sta Z h0 "java/lang/String" "COMPACT_STRINGS" "Z" (.int cs)) (hcs : ¬ (cs = (0 : Int32))) :
    MetFree l (⟨"com/example/contextwire/contextwire/RequestId", "isIdChar", "(C)Z"⟩ : MethodName) (head1 (Jvm.Cond.code (⟨"com/example/contextwire/contextwire/RequestId", "isIdChar", "(C)Z"⟩ : MethodName) prog_20_method_4_code 1 (some .boolean) :: ws) ({ frames := 4, cells := 2, slots := 36, locals := 59 } : Room)) (fun aA UA => aA = #[(.int (35 : Int32))] ∧ Z.Warmed39 UA.vm ∧ UA.heap = h0 ∧ CHv Z consts_1 UA.vm h0) (fun _ _ _ _ _ => True) (fun _ UA oA UB => ∃ rV LE, oA = .returned rV ∧ QrmId35 Z cs h0 n0 rV UB.heap LE ∧ CHr Z consts_1 UA.vm UA.heap UB.vm UB.heap ∧ ReturnedEndW UA oA UB LE ({ frames := 4, cells := 2, slots := 36, locals := 59 } : Room).cells ({ frames := 4, cells := 2, slots := 36, locals := 59 } : Room).slots) := by
  refine MetFree.of_bodySF (plainFor_of_name pn_3) hisR ?_
  intro p e s m args below meth c s₁ Bd hml0 hP hK
  obtain ⟨rfl, hZ, hh, hCH⟩ := hP
  have wS := ws1 hw
  have hEL := ew1 hw
  have HE0 := OwnH.start hh hCH
  have hZ : Z.Warmed39 (s.setVm s.vm).vm := hZ
  have hx := Bd.exec
  have hby := Bd.bytes
  have hml : c.maxLocals = 1 := hml0
  have hown : (s.setVm s.vm).vm.findClass "com/example/contextwire/contextwire/RequestId" = some m.cls := findClass_of_methodNamed Bd.named
  have hnm := (name_of_methodNamed Bd.named Bd.method).1
  have hlk := Bd.notSynchronized
  have X0 : Stand p l e ({ frames := 4, cells := 2, slots := 36, locals := 59 } : Room) (s.setVm s.vm) m #[(.int (35 : Int32))] below meth c s₁ [] 0 0 := Stand.of_body Bd
  have e0 : s₁.heap = h0 := by rw [← hh, Bd.state]; rfl
  have N0 := Fr.nil n0
  show GoS p e below s Z consts_1 (QrmId35 Z cs h0 n0) ({ frames := 4, cells := 2, slots := 36, locals := 59 } : Room).cells ({ frames := 4, cells := 2, slots := 36, locals := 59 } : Room).slots s₁ (entryFrame m #[(.int (35 : Int32))] 1)
  refine GoS.eq (ef_rmId35 m ) ?_
  show GoS p e below s _ _ _ _ _ s₁ (mkF m 0 #[.val (.int (35 : Int32))] [])
  refine GoS.st (fun _ => XS.iloadN X0.here hx rfl (hb hby d16_0) rfl) ?_
  show GoS p e below s _ _ _ _ _ s₁ (mkF m 1 #[.val (.int (35 : Int32))] [(.int (35 : Int32))])
  refine GoS.st (fun _ => XS.bipush X0.here hx rfl (hb hby d16_1)) ?_
  show GoS p e below s _ _ _ _ _ s₁ (mkF m 3 #[.val (.int (35 : Int32))] [(.int (97 : Int32)), (.int (35 : Int32))])
  refine GoS.st (fun _ => XS.icmpYes X0.here hx rfl (pc0 := 3) (pc' := 12) rfl (hb hby d16_3) rfl (tlt (by decide : (35 : Int32) < (97 : Int32))).1 (by decide) (by decide)) ?_
  show GoS p e below s _ _ _ _ _ s₁ (mkF m 12 #[.val (.int (35 : Int32))] [])
  refine GoS.st (fun _ => XS.iloadN X0.here hx rfl (hb hby d16_12) rfl) ?_
  show GoS p e below s _ _ _ _ _ s₁ (mkF m 13 #[.val (.int (35 : Int32))] [(.int (35 : Int32))])
  refine GoS.st (fun _ => XS.bipush X0.here hx rfl (hb hby d16_13)) ?_
  show GoS p e below s _ _ _ _ _ s₁ (mkF m 15 #[.val (.int (35 : Int32))] [(.int (65 : Int32)), (.int (35 : Int32))])
  refine GoS.st (fun _ => XS.icmpYes X0.here hx rfl (pc0 := 15) (pc' := 24) rfl (hb hby d16_15) rfl (tlt (by decide : (35 : Int32) < (65 : Int32))).1 (by decide) (by decide)) ?_
  show GoS p e below s _ _ _ _ _ s₁ (mkF m 24 #[.val (.int (35 : Int32))] [])
  refine GoS.st (fun _ => XS.iloadN X0.here hx rfl (hb hby d16_24) rfl) ?_
  show GoS p e below s _ _ _ _ _ s₁ (mkF m 25 #[.val (.int (35 : Int32))] [(.int (35 : Int32))])
  refine GoS.st (fun _ => XS.bipush X0.here hx rfl (hb hby d16_25)) ?_
  show GoS p e below s _ _ _ _ _ s₁ (mkF m 27 #[.val (.int (35 : Int32))] [(.int (48 : Int32)), (.int (35 : Int32))])
  refine GoS.st (fun _ => XS.icmpYes X0.here hx rfl (pc0 := 27) (pc' := 38) rfl (hb hby d16_27) rfl (tlt (by decide : (35 : Int32) < (48 : Int32))).1 (by decide) (by decide)) ?_
  show GoS p e below s _ _ _ _ _ s₁ (mkF m 38 #[.val (.int (35 : Int32))] [])
  obtain ⟨⟨_, hS_1, hk_1⟩, -⟩ := id HE0
  obtain ⟨a_1, T_1, h_1, k1_1, d_1, kd_1, X_1, e_1, E_1, hS_1', hk_1', hZ, hown, A_1, C_1, F_1, V_1, la_1, lb_1, CH_1, -, sf_1, st_1⟩ := ldcCH X0 hx hZ hown (hw _ (List.mem_of_getElem? (i := 74) rfl)) wS e0 hS_1 hk_1 hEL (List.mem_of_getElem? (i := 0) rfl) HE0.chv (vs := [(.int (43 : Int32)), (.int (47 : Int32)), (.int (61 : Int32)), (.int (45 : Int32)), (.int (124 : Int32)), (.int (46 : Int32)), (.int (95 : Int32)), (.int (35 : Int32))]) (z := (8 : Int32)) ⟨by decide +kernel, by decide +kernel⟩ (by decide) (by decide) (g := (mkF m 38 #[.val (.int (35 : Int32))] [])) rfl (hb hby d16_38) (n := 32) (by decide +kernel) (by decide) (by decide) (by decide)
  have HE_1 := HE0.next hS_1' hk_1' CH_1
  refine GoS.st st_1 ?_
  have z_1 : n0 ≤ h_1.size := Nat.le_trans Z0 E_1.1
  have K_1 : Keep h0 h_1 [] := (Keep.refl h0 []).ext E_1
  show GoS p e below s _ _ _ _ _ T_1 (mkF m 40 #[.val (.int (35 : Int32))] [(.ref a_1)])
  refine GoS.st (fun _ => XS.iloadN X_1.here hx rfl (hb hby d16_40) rfl) ?_
  show GoS p e below s _ _ _ _ _ T_1 (mkF m 41 #[.val (.int (35 : Int32))] [(.int (35 : Int32)), (.ref a_1)])
  have f_3 := (S_COMPACT_STRINGS.ext E_1)
  obtain ⟨cq_2, kq_2, q_2a, q_2b, q_2c⟩ := isOf hZ e_1 A_1
  obtain ⟨_, _, ⟨T_2, L_2, kc_2, nc_2⟩, -, X_2, ⟨Lc_2, hQ_2, l_2, y_2, z_2⟩, st_2⟩ := X_1.virtualBack hx (y := (⟨"java/lang/String", "indexOf", "(I)I"⟩ : MethodName)) (z := (⟨"java/lang/String", "indexOf", "(I)I"⟩ : MethodName)) hown (mvT hZ (hw _ (List.mem_of_getElem? (i := 77) rfl))) (mvT hZ (hw _ (List.mem_of_getElem? (i := 78) rfl))) (notFace_of_selects (args := #[]) (mvT hZ (hw _ (List.mem_of_getElem? (i := 80) rfl)))) (mvT hZ (hw _ (List.mem_of_getElem? (i := 80) rfl))) (mvT hZ (hw _ (List.mem_of_getElem? (i := 79) rfl))) (by decide) (backOf (W := 0) (rmIo35 l Z a0 hw [] a_1 cs d_1 kd_1 h_1 n0 z_1 f_3 hcs A_1 C_1 F_1 V_1) hZ (hw _ (List.mem_of_getElem? (i := 81) rfl)) (hw _ (List.mem_of_getElem? (i := 8) rfl)) (by decide) (by decide)) q_2a q_2c (g := (mkF m 41 #[.val (.int (35 : Int32))] [(.int (35 : Int32)), (.ref a_1)])) rfl (by rw [hml]; rfl) (Steps.refl _) (argsL := [(.int (35 : Int32))]) (rest := []) (lenOf pd_12 rfl) rfl (by show 2 * 0 + _ ≤ _; exact Nat.le_of_eq rfl) (hb hby d16_41) (fun _ _ => ⟨rfl, e_1, (by decide : 2 + 0 ≤ _), (by decide : 36 + 0 ≤ _)⟩)
  dsimp only [Pt.U, Pt.locs, Pt.cells, Pt.slots] at X_2 l_2 y_2 z_2 st_2 hQ_2
  obtain rfl : kc_2 = 2 := y_2
  obtain rfl : nc_2 = 36 := z_2
  obtain ⟨h_2, e_2⟩ : ∃ hh, T_2.heap = hh := ⟨_, rfl⟩
  rw [e_2] at hQ_2
  obtain ⟨rfl, N_2q, sm_2⟩ := hQ_2
  have N_2 : Fr n0 L_2 := by rw [l_2]; exact Fr.app N0 N_2q
  refine GoS.st (fun _ kk => st_2.trans kk) ?_
  rw [sm_2] at e_2
  show GoS p e below s _ _ _ _ _ T_2 (mkF m 44 #[.val (.int (35 : Int32))] [(.int (7 : Int32))])
  refine GoS.st (fun _ => XS.ifNo X_2.here hx rfl (hb hby d16_44) rfl ((if0 _ _).trans (flt (by decide : ¬ ((7 : Int32) < (0 : Int32)))).1)) ?_
  show GoS p e below s _ _ _ _ _ T_2 (mkF m 47 #[.val (.int (35 : Int32))] [])
  refine GoS.st (fun _ => XS.iconst X_2.here hx rfl (hb hby d16_47)) ?_
  show GoS p e below s _ _ _ _ _ T_2 (mkF m 48 #[.val (.int (35 : Int32))] [(.int (1 : Int32))])
  refine GoS.st (fun _ => XS.goto X_2.here hx rfl (pc0 := 48) (pc' := 52) rfl (hb hby d16_48) (by decide) (by decide)) ?_
  show GoS p e below s _ _ _ _ _ T_2 (mkF m 52 #[.val (.int (35 : Int32))] [(.int (1 : Int32))])
  exact GoS.retZ hZ hEL HE_1 e_2 X_2 hx hlk Bd.returns (hb hby d16_52) rfl (by rw [e_2]; exact ⟨rfl, N_2, K_1⟩) (by decide) (by decide)
theorem ef_rmVa35 (m : MethodId) (a : Addr) : entryFrame m #[(.ref a)] 2 = mkF m 0 #[.val (.ref a), .unset] [] := by first | (simp [entryFrame, mkF, argsToLocals, Value.category]; done) | rfl
def QrmVa35 (Z : State) (a : Addr) (cs : Int32) (d : Addr) (kd : ClassId) (fm : Value) (h0 : Heap) (n0 : Nat) (rV : Option Value) (hE : Heap) (LE : List Loc) : Prop := rV = some (.int (1 : Int32)) ∧ Fr n0 LE ∧ Keep h0 hE []
set_option maxRecDepth 65536 in
set_option maxHeartbeats 40000000 in
theorem rmVa35 (l : Launch) (Z : State) (a0 : Array Value) (hw : ∀ d ∈ tables_1, d.before a0 Z = true) (ws : List Jvm.Cond) (a : Addr) (cs : Int32) (d : Addr) (kd : ClassId) (fm : Value) (h0 : Heap) (n0 : Nat) (Z0 : n0 ≤ h0.size) (S_COMPACT_STRINGS : Sta Z h0 "java/lang/String" "COMPACT_STRINGS" "Z" (.int cs)) (hcs : ¬ (cs = (0 : Int32))) (S_SIOOBE_FORMATTER : Sta Z h0 "jdk/internal/util/Preconditions" "SIOOBE_FORMATTER" "Ljava/util/function/BiFunction;" fm) (rf_fm : fm.isRef = true) (E_a : Exa Z h0 a "java/lang/String") (F_coder_a : Fld Z h0 a "java/lang/String" "coder" "B" (.int (0 : Int32))) (F_value_a : Fld Z h0 a "java/lang/String" "value" "[B" (.ref d)) (V_d : Arv Z h0 d kd .byte (1 : Int32) [(.int (35 : Int32))] (.int (0 : Int32))) :
    MetFree l (⟨"com/example/contextwire/contextwire/RequestId", "isValid", "(Ljava/lang/String;)Z"⟩ : MethodName) (head1 (Jvm.Cond.code (⟨"com/example/contextwire/contextwire/RequestId", "isValid", "(Ljava/lang/String;)Z"⟩ : MethodName) prog_20_method_2_code 2 (some .boolean) :: ws) ({ frames := 5, cells := 2, slots := 36, locals := 71 } : Room)) (fun aA UA => aA = #[(.ref a)] ∧ Z.Warmed39 UA.vm ∧ UA.heap = h0 ∧ CHv Z consts_1 UA.vm h0) (fun _ _ _ _ _ => True) (fun _ UA oA UB => ∃ rV LE, oA = .returned rV ∧ QrmVa35 Z a cs d kd fm h0 n0 rV UB.heap LE ∧ CHr Z consts_1 UA.vm UA.heap UB.vm UB.heap ∧ ReturnedEndW UA oA UB LE ({ frames := 5, cells := 2, slots := 36, locals := 71 } : Room).cells ({ frames := 5, cells := 2, slots := 36, locals := 71 } : Room).slots) := by
  refine MetFree.of_bodySF (plainFor_of_name pn_3) hisR ?_
  intro p e s m args below meth c s₁ Bd hml0 hP hK
  obtain ⟨rfl, hZ, hh, hCH⟩ := hP
  have wS := ws1 hw
  have hEL := ew1 hw
  have HE0 := OwnH.start hh hCH
  have hZ : Z.Warmed39 (s.setVm s.vm).vm := hZ
  have hx := Bd.exec
  have hby := Bd.bytes
  have hml : c.maxLocals = 2 := hml0
  have hown : (s.setVm s.vm).vm.findClass "com/example/contextwire/contextwire/RequestId" = some m.cls := findClass_of_methodNamed Bd.named
  have hnm := (name_of_methodNamed Bd.named Bd.method).1
  have hlk := Bd.notSynchronized
  have X0 : Stand p l e ({ frames := 5, cells := 2, slots := 36, locals := 71 } : Room) (s.setVm s.vm) m #[(.ref a)] below meth c s₁ [] 0 0 := Stand.of_body Bd
  have e0 : s₁.heap = h0 := by rw [← hh, Bd.state]; rfl
  have N0 := Fr.nil n0
  show GoS p e below s Z consts_1 (QrmVa35 Z a cs d kd fm h0 n0) ({ frames := 5, cells := 2, slots := 36, locals := 71 } : Room).cells ({ frames := 5, cells := 2, slots := 36, locals := 71 } : Room).slots s₁ (entryFrame m #[(.ref a)] 2)
  refine GoS.eq (ef_rmVa35 m a) ?_
  show GoS p e below s _ _ _ _ _ s₁ (mkF m 0 #[.val (.ref a), .unset] [])
  refine GoS.st (fun _ => XS.aloadN X0.here hx rfl (hb hby d7_0) rfl rfl) ?_
  show GoS p e below s _ _ _ _ _ s₁ (mkF m 1 #[.val (.ref a), .unset] [(.ref a)])
  refine GoS.st (fun _ => XS.ifnullNo X0.here hx rfl (hb hby d7_1) rfl) ?_
  show GoS p e below s _ _ _ _ _ s₁ (mkF m 4 #[.val (.ref a), .unset] [])
  refine GoS.st (fun _ => XS.aloadN X0.here hx rfl (hb hby d7_4) rfl rfl) ?_
  show GoS p e below s _ _ _ _ _ s₁ (mkF m 5 #[.val (.ref a), .unset] [(.ref a)])
  obtain ⟨cq_1, kq_1, q_1a, q_1b, q_1c⟩ := isOf hZ e0 E_a
  obtain ⟨_, _, ⟨T_1, L_1, kc_1, nc_1⟩, -, X_1, ⟨Lc_1, hQ_1, l_1, y_1, z_1⟩, st_1⟩ := X0.virtualBack hx (y := (⟨"java/lang/String", "isEmpty", "()Z"⟩ : MethodName)) (z := (⟨"java/lang/String", "isEmpty", "()Z"⟩ : MethodName)) hown (mvT hZ (hw _ (List.mem_of_getElem? (i := 35) rfl))) (mvT hZ (hw _ (List.mem_of_getElem? (i := 36) rfl))) (notFace_of_selects (args := #[]) (mvT hZ (hw _ (List.mem_of_getElem? (i := 38) rfl)))) (mvT hZ (hw _ (List.mem_of_getElem? (i := 38) rfl))) (mvT hZ (hw _ (List.mem_of_getElem? (i := 37) rfl))) (by decide) (backOf (W := 0) (rmEmp l Z a0 hw [] a d kd [(.int (35 : Int32))] h0 n0 Z0 F_value_a V_d) hZ (hw _ (List.mem_of_getElem? (i := 39) rfl)) (hw _ (List.mem_of_getElem? (i := 8) rfl)) (by decide) (by decide)) q_1a q_1c (g := (mkF m 5 #[.val (.ref a), .unset] [(.ref a)])) rfl (by rw [hml]; rfl) (Steps.refl _) (argsL := []) (rest := []) (lenOf pd_5 rfl) rfl (by show 2 * 0 + _ ≤ _; exact Nat.le_of_eq rfl) (hb hby d7_5) (fun _ _ => ⟨rfl, e0, (by decide : 0 + 0 ≤ _), (by decide : 0 + 0 ≤ _)⟩)
  dsimp only [Pt.U, Pt.locs, Pt.cells, Pt.slots] at X_1 l_1 y_1 z_1 st_1 hQ_1
  obtain rfl : kc_1 = 0 := y_1
  obtain rfl : nc_1 = 0 := z_1
  obtain ⟨h_1, e_1⟩ : ∃ hh, T_1.heap = hh := ⟨_, rfl⟩
  rw [e_1] at hQ_1
  obtain ⟨rfl, N_1q, sm_1⟩ := hQ_1
  have N_1 : Fr n0 L_1 := by rw [l_1]; exact Fr.app N0 N_1q
  refine GoS.st (fun _ kk => st_1.trans kk) ?_
  rw [sm_1] at e_1
  show GoS p e below s _ _ _ _ _ T_1 (mkF m 8 #[.val (.ref a), .unset] [(.int (0 : Int32))])
  refine GoS.st (fun _ => XS.ifNo X_1.here hx rfl (hb hby d7_8) rfl ((if0 _ _).trans (teq (by decide : (0 : Int32) = (0 : Int32))).2)) ?_
  show GoS p e below s _ _ _ _ _ T_1 (mkF m 11 #[.val (.ref a), .unset] [])
  refine GoS.st (fun _ => XS.aloadN X_1.here hx rfl (hb hby d7_11) rfl rfl) ?_
  show GoS p e below s _ _ _ _ _ T_1 (mkF m 12 #[.val (.ref a), .unset] [(.ref a)])
  obtain ⟨cq_2, kq_2, q_2a, q_2b, q_2c⟩ := isOf hZ e_1 E_a
  obtain ⟨_, _, ⟨T_2, L_2, kc_2, nc_2⟩, -, X_2, ⟨Lc_2, hQ_2, l_2, y_2, z_2⟩, st_2⟩ := X_1.virtualBack hx (y := (⟨"java/lang/String", "length", "()I"⟩ : MethodName)) (z := (⟨"java/lang/String", "length", "()I"⟩ : MethodName)) hown (mvT hZ (hw _ (List.mem_of_getElem? (i := 40) rfl))) (mvT hZ (hw _ (List.mem_of_getElem? (i := 41) rfl))) (notFace_of_selects (args := #[]) (mvT hZ (hw _ (List.mem_of_getElem? (i := 43) rfl)))) (mvT hZ (hw _ (List.mem_of_getElem? (i := 43) rfl))) (mvT hZ (hw _ (List.mem_of_getElem? (i := 42) rfl))) (by decide) (backOf (W := 0) (rmLen1 l Z a0 hw [] a cs d kd [(.int (35 : Int32))] h0 n0 Z0 S_COMPACT_STRINGS hcs E_a F_coder_a F_value_a V_d) hZ (hw _ (List.mem_of_getElem? (i := 44) rfl)) (hw _ (List.mem_of_getElem? (i := 8) rfl)) (by decide) (by decide)) q_2a q_2c (g := (mkF m 12 #[.val (.ref a), .unset] [(.ref a)])) rfl (by rw [hml]; rfl) (Steps.refl _) (argsL := []) (rest := []) (lenOf pd_11 rfl) rfl (by show 2 * 0 + _ ≤ _; exact Nat.le_of_eq rfl) (hb hby d7_12) (fun _ _ => ⟨rfl, e_1, (by decide : 0 + 0 ≤ _), (by decide : 0 + 0 ≤ _)⟩)
  dsimp only [Pt.U, Pt.locs, Pt.cells, Pt.slots] at X_2 l_2 y_2 z_2 st_2 hQ_2
  obtain rfl : kc_2 = 0 := y_2
  obtain rfl : nc_2 = 0 := z_2
  obtain ⟨h_2, e_2⟩ : ∃ hh, T_2.heap = hh := ⟨_, rfl⟩
  rw [e_2] at hQ_2
  obtain ⟨rfl, N_2q, sm_2⟩ := hQ_2
  have N_2 : Fr n0 L_2 := by rw [l_2]; exact Fr.app N_1 N_2q
  refine GoS.st (fun _ kk => st_2.trans kk) ?_
  rw [sm_2] at e_2
  show GoS p e below s _ _ _ _ _ T_2 (mkF m 15 #[.val (.ref a), .unset] [(.int (1 : Int32))])
  refine GoS.st (fun _ => XS.sipush X_2.here hx rfl (hb hby d7_15)) ?_
  show GoS p e below s _ _ _ _ _ T_2 (mkF m 18 #[.val (.ref a), .unset] [(.int (1024 : Int32)), (.int (1 : Int32))])
  refine GoS.st (fun _ => XS.icmpYes X_2.here hx rfl (pc0 := 18) (pc' := 23) rfl (hb hby d7_18) rfl (flt (by decide : ¬ ((1024 : Int32) < (1 : Int32)))).2.2.2 (by decide) (by decide)) ?_
  show GoS p e below s _ _ _ _ _ T_2 (mkF m 23 #[.val (.ref a), .unset] [])
  refine GoS.st (fun _ => XS.iconst X_2.here hx rfl (hb hby d7_23)) ?_
  show GoS p e below s _ _ _ _ _ T_2 (mkF m 24 #[.val (.ref a), .unset] [(.int (0 : Int32))])
  refine GoS.st (fun _ => XS.istoreN X_2.here hx rfl (hb hby d7_24) rfl (l' := #[.val (.ref a), .val (.int (0 : Int32))]) rfl) ?_
  show GoS p e below s _ _ _ _ _ T_2 (mkF m 25 #[.val (.ref a), .val (.int (0 : Int32))] [])
  refine GoS.st (fun _ => XS.iloadN X_2.here hx rfl (hb hby d7_25) rfl) ?_
  show GoS p e below s _ _ _ _ _ T_2 (mkF m 26 #[.val (.ref a), .val (.int (0 : Int32))] [(.int (0 : Int32))])
  refine GoS.st (fun _ => XS.aloadN X_2.here hx rfl (hb hby d7_26) rfl rfl) ?_
  show GoS p e below s _ _ _ _ _ T_2 (mkF m 27 #[.val (.ref a), .val (.int (0 : Int32))] [(.ref a), (.int (0 : Int32))])
  obtain ⟨cq_3, kq_3, q_3a, q_3b, q_3c⟩ := isOf hZ e_2 E_a
  obtain ⟨_, _, ⟨T_3, L_3, kc_3, nc_3⟩, -, X_3, ⟨Lc_3, hQ_3, l_3, y_3, z_3⟩, st_3⟩ := X_2.virtualBack hx (y := (⟨"java/lang/String", "length", "()I"⟩ : MethodName)) (z := (⟨"java/lang/String", "length", "()I"⟩ : MethodName)) hown (mvT hZ (hw _ (List.mem_of_getElem? (i := 40) rfl))) (mvT hZ (hw _ (List.mem_of_getElem? (i := 41) rfl))) (notFace_of_selects (args := #[]) (mvT hZ (hw _ (List.mem_of_getElem? (i := 43) rfl)))) (mvT hZ (hw _ (List.mem_of_getElem? (i := 43) rfl))) (mvT hZ (hw _ (List.mem_of_getElem? (i := 42) rfl))) (by decide) (backOf (W := 1) (rmLen1 l Z a0 hw [] a cs d kd [(.int (35 : Int32))] h0 n0 Z0 S_COMPACT_STRINGS hcs E_a F_coder_a F_value_a V_d) hZ (hw _ (List.mem_of_getElem? (i := 44) rfl)) (hw _ (List.mem_of_getElem? (i := 8) rfl)) (by decide) (by decide)) q_3a q_3c (g := (mkF m 27 #[.val (.ref a), .val (.int (0 : Int32))] [(.ref a), (.int (0 : Int32))])) rfl (by rw [hml]; rfl) (Steps.refl _) (argsL := []) (rest := [(.int (0 : Int32))]) (lenOf pd_11 rfl) rfl (by show 2 * 0 + _ ≤ _; exact Nat.le_of_eq rfl) (hb hby d7_27) (fun _ _ => ⟨rfl, e_2, (by decide : 0 + 0 ≤ _), (by decide : 0 + 0 ≤ _)⟩)
  dsimp only [Pt.U, Pt.locs, Pt.cells, Pt.slots] at X_3 l_3 y_3 z_3 st_3 hQ_3
  obtain rfl : kc_3 = 0 := y_3
  obtain rfl : nc_3 = 0 := z_3
  obtain ⟨h_3, e_3⟩ : ∃ hh, T_3.heap = hh := ⟨_, rfl⟩
  rw [e_3] at hQ_3
  obtain ⟨rfl, N_3q, sm_3⟩ := hQ_3
  have N_3 : Fr n0 L_3 := by rw [l_3]; exact Fr.app N_2 N_3q
  refine GoS.st (fun _ kk => st_3.trans kk) ?_
  rw [sm_3] at e_3
  show GoS p e below s _ _ _ _ _ T_3 (mkF m 30 #[.val (.ref a), .val (.int (0 : Int32))] [(.int (1 : Int32)), (.int (0 : Int32))])
  refine GoS.st (fun _ => XS.icmpNo X_3.here hx rfl (hb hby d7_30) rfl (tlt (by decide : (0 : Int32) < (1 : Int32))).2.1) ?_
  show GoS p e below s _ _ _ _ _ T_3 (mkF m 33 #[.val (.ref a), .val (.int (0 : Int32))] [])
  refine GoS.st (fun _ => XS.aloadN X_3.here hx rfl (hb hby d7_33) rfl rfl) ?_
  show GoS p e below s _ _ _ _ _ T_3 (mkF m 34 #[.val (.ref a), .val (.int (0 : Int32))] [(.ref a)])
  refine GoS.st (fun _ => XS.iloadN X_3.here hx rfl (hb hby d7_34) rfl) ?_
  show GoS p e below s _ _ _ _ _ T_3 (mkF m 35 #[.val (.ref a), .val (.int (0 : Int32))] [(.int (0 : Int32)), (.ref a)])
  obtain ⟨cq_4, kq_4, q_4a, q_4b, q_4c⟩ := isOf hZ e_3 E_a
  obtain ⟨_, _, ⟨T_4, L_4, kc_4, nc_4⟩, -, X_4, ⟨Lc_4, hQ_4, l_4, y_4, z_4⟩, st_4⟩ := X_3.virtualBack hx (y := (⟨"java/lang/String", "charAt", "(I)C"⟩ : MethodName)) (z := (⟨"java/lang/String", "charAt", "(I)C"⟩ : MethodName)) hown (mvT hZ (hw _ (List.mem_of_getElem? (i := 50) rfl))) (mvT hZ (hw _ (List.mem_of_getElem? (i := 51) rfl))) (notFace_of_selects (args := #[]) (mvT hZ (hw _ (List.mem_of_getElem? (i := 53) rfl)))) (mvT hZ (hw _ (List.mem_of_getElem? (i := 53) rfl))) (mvT hZ (hw _ (List.mem_of_getElem? (i := 52) rfl))) (by decide) (backOf (W := 0) (rmCa35 l Z a0 hw [] a cs d kd fm h0 n0 Z0 S_COMPACT_STRINGS hcs S_SIOOBE_FORMATTER rf_fm E_a F_coder_a F_value_a V_d) hZ (hw _ (List.mem_of_getElem? (i := 54) rfl)) (hw _ (List.mem_of_getElem? (i := 8) rfl)) (by decide) (by decide)) q_4a q_4c (g := (mkF m 35 #[.val (.ref a), .val (.int (0 : Int32))] [(.int (0 : Int32)), (.ref a)])) rfl (by rw [hml]; rfl) (Steps.refl _) (argsL := [(.int (0 : Int32))]) (rest := []) (lenOf pd_13 rfl) rfl (by show 2 * 0 + _ ≤ _; exact Nat.le_of_eq rfl) (hb hby d7_35) (fun _ _ => ⟨rfl, e_3, (by decide : 0 + 0 ≤ _), (by decide : 0 + 0 ≤ _)⟩)
  dsimp only [Pt.U, Pt.locs, Pt.cells, Pt.slots] at X_4 l_4 y_4 z_4 st_4 hQ_4
  obtain rfl : kc_4 = 0 := y_4
  obtain rfl : nc_4 = 0 := z_4
  obtain ⟨h_4, e_4⟩ : ∃ hh, T_4.heap = hh := ⟨_, rfl⟩
  rw [e_4] at hQ_4
  obtain ⟨rfl, N_4q, sm_4⟩ := hQ_4
  have N_4 : Fr n0 L_4 := by rw [l_4]; exact Fr.app N_3 N_4q
  refine GoS.st (fun _ kk => st_4.trans kk) ?_
  rw [sm_4] at e_4
  show GoS p e below s _ _ _ _ _ T_4 (mkF m 38 #[.val (.ref a), .val (.int (0 : Int32))] [(.int (35 : Int32))])
  obtain ⟨_, _, ⟨T_5, L_5, kc_5, nc_5⟩, -, X_5, sn_5, gg_5, ⟨Lc_5, hQ_5, l_5, y_5, z_5, CH_5⟩, st_5⟩ := callSS X_4 hx (y := (⟨"com/example/contextwire/contextwire/RequestId", "isIdChar", "(C)Z"⟩ : MethodName)) hown (mvT hZ (hw _ (List.mem_of_getElem? (i := 71) rfl))) (mvT hZ (hw _ (List.mem_of_getElem? (i := 72) rfl))) (mvT hZ (hw _ (List.mem_of_getElem? (i := 4) rfl))) (mvT hZ (hw _ (List.mem_of_getElem? (i := 73) rfl))) (by decide) (backOfSH (s := s) (vm0 := s.vm) (W := 0) (rmId35 l Z a0 hw [] cs h0 n0 Z0 S_COMPACT_STRINGS hcs) hZ (hw _ (List.mem_of_getElem? (i := 73) rfl)) (hw _ (List.mem_of_getElem? (i := 4) rfl)) (by decide) (by decide) hEL HE0.chv) (g := (mkF m 38 #[.val (.ref a), .val (.int (0 : Int32))] [(.int (35 : Int32))])) rfl (by rw [hml]; rfl) (argsL := [(.int (35 : Int32))]) (rest := []) (lenOf pd_0 rfl) rfl (by show 2 * 0 + _ ≤ _; exact Nat.le_of_eq rfl) (hb hby d7_38) (fun _ _ => ⟨rfl, e_4, (by decide : 0 + 2 ≤ _), (by decide : 0 + 36 ≤ _)⟩)
  dsimp only [Pt.U, Pt.locs, Pt.cells, Pt.slots] at X_5 l_5 y_5 z_5 st_5 hQ_5
  obtain rfl : kc_5 = 2 := y_5
  obtain rfl : nc_5 = 36 := z_5
  dsimp only [Pt.U, Pt.locs, Pt.cells, Pt.slots] at sn_5 gg_5 CH_5
  obtain ⟨X_5, HE_5, hZ, hown⟩ := OwnH.call HE0 e_4 X_5 sn_5 gg_5 hZ hown CH_5
  obtain ⟨h_5, e_5⟩ : ∃ hh, T_5.heap = hh := ⟨_, rfl⟩
  rw [e_5] at hQ_5 HE_5 CH_5
  obtain ⟨rfl, N_5q, K_5⟩ := hQ_5
  have N_5 : Fr n0 L_5 := by rw [l_5]; exact Fr.app N_4 N_5q
  refine GoS.st (fun _ kk => st_5.trans kk) ?_
  have KK_5 : Keep h0 h_5 [] := (Keep.refl h0 []).trans K_5 all0
  have z_5q : n0 ≤ h_5.size := Nat.le_trans Z0 K_5.1
  have ns_5 : ∀ x ∈ ([] : List Addr), ∀ cell : Cell, h0[x]? = some cell → cell.vm.isStatics = false := all0
  show GoS p e below s _ _ _ _ _ T_5 (mkF m 41 #[.val (.ref a), .val (.int (0 : Int32))] [(.int (1 : Int32))])
  refine GoS.st (fun _ => XS.ifYes X_5.here hx rfl (pc0 := 41) (pc' := 46) rfl (hb hby d7_41) rfl ((if0 _ _).trans (feq (by decide : ¬ ((1 : Int32) = (0 : Int32)))).2) (by decide) (by decide)) ?_
  show GoS p e below s _ _ _ _ _ T_5 (mkF m 46 #[.val (.ref a), .val (.int (0 : Int32))] [])
  refine GoS.st (fun _ => XS.iinc X_5.here hx rfl (hb hby d7_46) rfl (l' := #[.val (.ref a), .val (.int ((0 : Int32) + (1 : Int32)))]) rfl) ?_
  show GoS p e below s _ _ _ _ _ T_5 (mkF m 49 #[.val (.ref a), .val (.int ((0 : Int32) + (1 : Int32)))] [])
  rw [show ((0 : Int32) + (1 : Int32)) = (1 : Int32) from by decide]
  show GoS p e below s _ _ _ _ _ T_5 (mkF m 49 #[.val (.ref a), .val (.int (1 : Int32))] [])
  refine GoS.st (fun _ => XS.goto X_5.here hx rfl (pc0 := 49) (pc' := 25) rfl (hb hby d7_49) (by decide) (by decide)) ?_
  show GoS p e below s _ _ _ _ _ T_5 (mkF m 25 #[.val (.ref a), .val (.int (1 : Int32))] [])
  refine GoS.st (fun _ => XS.iloadN X_5.here hx rfl (hb hby d7_25) rfl) ?_
  show GoS p e below s _ _ _ _ _ T_5 (mkF m 26 #[.val (.ref a), .val (.int (1 : Int32))] [(.int (1 : Int32))])
  refine GoS.st (fun _ => XS.aloadN X_5.here hx rfl (hb hby d7_26) rfl rfl) ?_
  show GoS p e below s _ _ _ _ _ T_5 (mkF m 27 #[.val (.ref a), .val (.int (1 : Int32))] [(.ref a), (.int (1 : Int32))])
  have f_7 := (own_sta_keep S_COMPACT_STRINGS K_5 ns_5)
  have f_8 := (E_a.keep K_5)
  have f_9 := (F_coder_a.keep K_5 nin0)
  have f_10 := (F_value_a.keep K_5 nin0)
  have f_11 := (V_d.keep K_5 nin0)
  obtain ⟨cq_6, kq_6, q_6a, q_6b, q_6c⟩ := isOf hZ e_5 f_8
  obtain ⟨_, _, ⟨T_6, L_6, kc_6, nc_6⟩, -, X_6, ⟨Lc_6, hQ_6, l_6, y_6, z_6⟩, st_6⟩ := X_5.virtualBack hx (y := (⟨"java/lang/String", "length", "()I"⟩ : MethodName)) (z := (⟨"java/lang/String", "length", "()I"⟩ : MethodName)) hown (mvT hZ (hw _ (List.mem_of_getElem? (i := 40) rfl))) (mvT hZ (hw _ (List.mem_of_getElem? (i := 41) rfl))) (notFace_of_selects (args := #[]) (mvT hZ (hw _ (List.mem_of_getElem? (i := 43) rfl)))) (mvT hZ (hw _ (List.mem_of_getElem? (i := 43) rfl))) (mvT hZ (hw _ (List.mem_of_getElem? (i := 42) rfl))) (by decide) (backOf (W := 1) (rmLen1 l Z a0 hw [] a cs d kd [(.int (35 : Int32))] h_5 n0 z_5q f_7 hcs f_8 f_9 f_10 f_11) hZ (hw _ (List.mem_of_getElem? (i := 44) rfl)) (hw _ (List.mem_of_getElem? (i := 8) rfl)) (by decide) (by decide)) q_6a q_6c (g := (mkF m 27 #[.val (.ref a), .val (.int (1 : Int32))] [(.ref a), (.int (1 : Int32))])) rfl (by rw [hml]; rfl) (Steps.refl _) (argsL := []) (rest := [(.int (1 : Int32))]) (lenOf pd_11 rfl) rfl (by show 2 * 0 + _ ≤ _; exact Nat.le_of_eq rfl) (hb hby d7_27) (fun _ _ => ⟨rfl, e_5, (by decide : 2 + 0 ≤ _), (by decide : 36 + 0 ≤ _)⟩)
  dsimp only [Pt.U, Pt.locs, Pt.cells, Pt.slots] at X_6 l_6 y_6 z_6 st_6 hQ_6
  obtain rfl : kc_6 = 2 := y_6
  obtain rfl : nc_6 = 36 := z_6
  obtain ⟨h_6, e_6⟩ : ∃ hh, T_6.heap = hh := ⟨_, rfl⟩
  rw [e_6] at hQ_6
  obtain ⟨rfl, N_6q, sm_6⟩ := hQ_6
  have N_6 : Fr n0 L_6 := by rw [l_6]; exact Fr.app N_5 N_6q
  refine GoS.st (fun _ kk => st_6.trans kk) ?_
  rw [sm_6] at e_6
  show GoS p e below s _ _ _ _ _ T_6 (mkF m 30 #[.val (.ref a), .val (.int (1 : Int32))] [(.int (1 : Int32)), (.int (1 : Int32))])
  refine GoS.st (fun _ => XS.icmpYes X_6.here hx rfl (pc0 := 30) (pc' := 52) rfl (hb hby d7_30) rfl (flt (by decide : ¬ ((1 : Int32) < (1 : Int32)))).2.1 (by decide) (by decide)) ?_
  show GoS p e below s _ _ _ _ _ T_6 (mkF m 52 #[.val (.ref a), .val (.int (1 : Int32))] [])
  refine GoS.st (fun _ => XS.iconst X_6.here hx rfl (hb hby d7_52)) ?_
  show GoS p e below s _ _ _ _ _ T_6 (mkF m 53 #[.val (.ref a), .val (.int (1 : Int32))] [(.int (1 : Int32))])
  exact GoS.retZ hZ hEL HE_5 e_6 X_6 hx hlk Bd.returns (hb hby d7_53) rfl (by rw [e_6]; exact ⟨rfl, N_6, KK_5⟩) (by decide) (by decide)
theorem d1_0 : decode prog_20_method_3_code 0 = .ok (.iload_n 0, 1) := by decide +kernel
theorem d1_1 : decode prog_20_method_3_code 1 = .ok (.bipush 46, 2) := by decide +kernel
theorem d1_3 : decode prog_20_method_3_code 3 = .ok (.if_icmp .eq 15, 3) := by decide +kernel
theorem d1_18 : decode prog_20_method_3_code 18 = .ok (.iconst 1, 1) := by decide +kernel
theorem d1_19 : decode prog_20_method_3_code 19 = .ok (.goto 4, 3) := by decide +kernel
theorem d1_23 : decode prog_20_method_3_code 23 = .ok (.ireturn, 1) := by decide +kernel
theorem ef_rmNe46 (m : MethodId)  : entryFrame m #[(.int (46 : Int32))] 1 = mkF m 0 #[.val (.int (46 : Int32))] [] := by first | (simp [entryFrame, mkF, argsToLocals, Value.category]; done) | rfl
def QrmNe46 (Z : State)  (h0 : Heap) (n0 : Nat) (rV : Option Value) (hE : Heap) (LE : List Loc) : Prop := rV = some (.int (1 : Int32)) ∧ Fr n0 LE ∧ hE = h0
set_option maxRecDepth 65536 in
set_option maxHeartbeats 40000000 in
theorem rmNe46 (l : Launch) (Z : State) (a0 : Array Value) (hw : ∀ d ∈ tables_1, d.before a0 Z = true) (ws : List Jvm.Cond)  (h0 : Heap) (n0 : Nat) (Z0 : n0 ≤ h0.size) :
    MetFree l (⟨"com/example/contextwire/contextwire/RequestId", "isNodeEnd", "(C)Z"⟩ : MethodName) (head1 (Jvm.Cond.code (⟨"com/example/contextwire/contextwire/RequestId", "isNodeEnd", "(C)Z"⟩ : MethodName) prog_20_method_3_code 1 (some .boolean) :: ws) ({ frames := 0, cells := 0, slots := 0, locals := 0 } : Room)) (fun aA UA => aA = #[(.int (46 : Int32))] ∧ Z.Warmed39 UA.vm ∧ UA.heap = h0) (fun _ _ _ _ _ => True) (fun _ UA oA UB => ∃ rV LE, oA = .returned rV ∧ QrmNe46 Z  h0 n0 rV UB.heap LE ∧ FrameEnd UA oA UB LE ({ frames := 0, cells := 0, slots := 0, locals := 0 } : Room).cells ({ frames := 0, cells := 0, slots := 0, locals := 0 } : Room).slots) := by
  refine MetFree.of_bodySF (plainFor_of_name pn_3) hisR ?_
  intro p e s m args below meth c s₁ Bd hml0 hP hK
  obtain ⟨rfl, hZ, hh⟩ := hP
  have hx := Bd.exec
  have hby := Bd.bytes
  have hml : c.maxLocals = 1 := hml0
  have hown : s.vm.findClass "com/example/contextwire/contextwire/RequestId" = some m.cls := findClass_of_methodNamed Bd.named
  have hnm := (name_of_methodNamed Bd.named Bd.method).1
  have hlk := Bd.notSynchronized
  have X0 : Stand p l e ({ frames := 0, cells := 0, slots := 0, locals := 0 } : Room) s m #[(.int (46 : Int32))] below meth c s₁ [] 0 0 := Stand.of_body Bd
  have e0 : s₁.heap = h0 := by rw [← hh, Bd.state]; rfl
  have N0 := Fr.nil n0
  show Go p e below s (QrmNe46 Z  h0 n0) ({ frames := 0, cells := 0, slots := 0, locals := 0 } : Room).cells ({ frames := 0, cells := 0, slots := 0, locals := 0 } : Room).slots s₁ (entryFrame m #[(.int (46 : Int32))] 1)
  refine Go.eq (ef_rmNe46 m ) ?_
  show Go p e below s _ _ _ s₁ (mkF m 0 #[.val (.int (46 : Int32))] [])
  refine Go.st (fun _ => XS.iloadN X0.here hx rfl (hb hby d1_0) rfl) ?_
  show Go p e below s _ _ _ s₁ (mkF m 1 #[.val (.int (46 : Int32))] [(.int (46 : Int32))])
  refine Go.st (fun _ => XS.bipush X0.here hx rfl (hb hby d1_1)) ?_
  show Go p e below s _ _ _ s₁ (mkF m 3 #[.val (.int (46 : Int32))] [(.int (46 : Int32)), (.int (46 : Int32))])
  refine Go.st (fun _ => XS.icmpYes X0.here hx rfl (pc0 := 3) (pc' := 18) rfl (hb hby d1_3) rfl (teq (by decide : (46 : Int32) = (46 : Int32))).1 (by decide) (by decide)) ?_
  show Go p e below s _ _ _ s₁ (mkF m 18 #[.val (.int (46 : Int32))] [])
  refine Go.st (fun _ => XS.iconst X0.here hx rfl (hb hby d1_18)) ?_
  show Go p e below s _ _ _ s₁ (mkF m 19 #[.val (.int (46 : Int32))] [(.int (1 : Int32))])
  refine Go.st (fun _ => XS.goto X0.here hx rfl (pc0 := 19) (pc' := 23) rfl (hb hby d1_19) (by decide) (by decide)) ?_
  show Go p e below s _ _ _ s₁ (mkF m 23 #[.val (.int (46 : Int32))] [(.int (1 : Int32))])
  exact Go.retZ X0 hx hlk Bd.returns (hb hby d1_23) rfl (by rw [e0]; exact ⟨rfl, N0, rfl⟩) (by decide) (by decide)
theorem d1_6 : decode prog_20_method_3_code 6 = .ok (.iload_n 0, 1) := by decide +kernel
theorem d1_7 : decode prog_20_method_3_code 7 = .ok (.bipush 95, 2) := by decide +kernel
theorem d1_9 : decode prog_20_method_3_code 9 = .ok (.if_icmp .eq 9, 3) := by decide +kernel
theorem ef_rmNe95 (m : MethodId)  : entryFrame m #[(.int (95 : Int32))] 1 = mkF m 0 #[.val (.int (95 : Int32))] [] := by first | (simp [entryFrame, mkF, argsToLocals, Value.category]; done) | rfl
def QrmNe95 (Z : State)  (h0 : Heap) (n0 : Nat) (rV : Option Value) (hE : Heap) (LE : List Loc) : Prop := rV = some (.int (1 : Int32)) ∧ Fr n0 LE ∧ hE = h0
set_option maxRecDepth 65536 in
set_option maxHeartbeats 40000000 in
theorem rmNe95 (l : Launch) (Z : State) (a0 : Array Value) (hw : ∀ d ∈ tables_1, d.before a0 Z = true) (ws : List Jvm.Cond)  (h0 : Heap) (n0 : Nat) (Z0 : n0 ≤ h0.size) :
    MetFree l (⟨"com/example/contextwire/contextwire/RequestId", "isNodeEnd", "(C)Z"⟩ : MethodName) (head1 (Jvm.Cond.code (⟨"com/example/contextwire/contextwire/RequestId", "isNodeEnd", "(C)Z"⟩ : MethodName) prog_20_method_3_code 1 (some .boolean) :: ws) ({ frames := 0, cells := 0, slots := 0, locals := 0 } : Room)) (fun aA UA => aA = #[(.int (95 : Int32))] ∧ Z.Warmed39 UA.vm ∧ UA.heap = h0) (fun _ _ _ _ _ => True) (fun _ UA oA UB => ∃ rV LE, oA = .returned rV ∧ QrmNe95 Z  h0 n0 rV UB.heap LE ∧ FrameEnd UA oA UB LE ({ frames := 0, cells := 0, slots := 0, locals := 0 } : Room).cells ({ frames := 0, cells := 0, slots := 0, locals := 0 } : Room).slots) := by
  refine MetFree.of_bodySF (plainFor_of_name pn_3) hisR ?_
  intro p e s m args below meth c s₁ Bd hml0 hP hK
  obtain ⟨rfl, hZ, hh⟩ := hP
  have hx := Bd.exec
  have hby := Bd.bytes
  have hml : c.maxLocals = 1 := hml0
  have hown : s.vm.findClass "com/example/contextwire/contextwire/RequestId" = some m.cls := findClass_of_methodNamed Bd.named
  have hnm := (name_of_methodNamed Bd.named Bd.method).1
  have hlk := Bd.notSynchronized
  have X0 : Stand p l e ({ frames := 0, cells := 0, slots := 0, locals := 0 } : Room) s m #[(.int (95 : Int32))] below meth c s₁ [] 0 0 := Stand.of_body Bd
  have e0 : s₁.heap = h0 := by rw [← hh, Bd.state]; rfl
  have N0 := Fr.nil n0
  show Go p e below s (QrmNe95 Z  h0 n0) ({ frames := 0, cells := 0, slots := 0, locals := 0 } : Room).cells ({ frames := 0, cells := 0, slots := 0, locals := 0 } : Room).slots s₁ (entryFrame m #[(.int (95 : Int32))] 1)
  refine Go.eq (ef_rmNe95 m ) ?_
  show Go p e below s _ _ _ s₁ (mkF m 0 #[.val (.int (95 : Int32))] [])
  refine Go.st (fun _ => XS.iloadN X0.here hx rfl (hb hby d1_0) rfl) ?_
  show Go p e below s _ _ _ s₁ (mkF m 1 #[.val (.int (95 : Int32))] [(.int (95 : Int32))])
  refine Go.st (fun _ => XS.bipush X0.here hx rfl (hb hby d1_1)) ?_
  show Go p e below s _ _ _ s₁ (mkF m 3 #[.val (.int (95 : Int32))] [(.int (46 : Int32)), (.int (95 : Int32))])
  refine Go.st (fun _ => XS.icmpNo X0.here hx rfl (hb hby d1_3) rfl (feq (by decide : ¬ ((95 : Int32) = (46 : Int32)))).1) ?_
  show Go p e below s _ _ _ s₁ (mkF m 6 #[.val (.int (95 : Int32))] [])
  refine Go.st (fun _ => XS.iloadN X0.here hx rfl (hb hby d1_6) rfl) ?_
  show Go p e below s _ _ _ s₁ (mkF m 7 #[.val (.int (95 : Int32))] [(.int (95 : Int32))])
  refine Go.st (fun _ => XS.bipush X0.here hx rfl (hb hby d1_7)) ?_
  show Go p e below s _ _ _ s₁ (mkF m 9 #[.val (.int (95 : Int32))] [(.int (95 : Int32)), (.int (95 : Int32))])
  refine Go.st (fun _ => XS.icmpYes X0.here hx rfl (pc0 := 9) (pc' := 18) rfl (hb hby d1_9) rfl (teq (by decide : (95 : Int32) = (95 : Int32))).1 (by decide) (by decide)) ?_
  show Go p e below s _ _ _ s₁ (mkF m 18 #[.val (.int (95 : Int32))] [])
  refine Go.st (fun _ => XS.iconst X0.here hx rfl (hb hby d1_18)) ?_
  show Go p e below s _ _ _ s₁ (mkF m 19 #[.val (.int (95 : Int32))] [(.int (1 : Int32))])
  refine Go.st (fun _ => XS.goto X0.here hx rfl (pc0 := 19) (pc' := 23) rfl (hb hby d1_19) (by decide) (by decide)) ?_
  show Go p e below s _ _ _ s₁ (mkF m 23 #[.val (.int (95 : Int32))] [(.int (1 : Int32))])
  exact Go.retZ X0 hx hlk Bd.returns (hb hby d1_23) rfl (by rw [e0]; exact ⟨rfl, N0, rfl⟩) (by decide) (by decide)
theorem d1_12 : decode prog_20_method_3_code 12 = .ok (.iload_n 0, 1) := by decide +kernel
theorem d1_13 : decode prog_20_method_3_code 13 = .ok (.bipush 35, 2) := by decide +kernel
theorem d1_15 : decode prog_20_method_3_code 15 = .ok (.if_icmp .ne 7, 3) := by decide +kernel
theorem ef_rmNe35 (m : MethodId)  : entryFrame m #[(.int (35 : Int32))] 1 = mkF m 0 #[.val (.int (35 : Int32))] [] := by first | (simp [entryFrame, mkF, argsToLocals, Value.category]; done) | rfl
def QrmNe35 (Z : State)  (h0 : Heap) (n0 : Nat) (rV : Option Value) (hE : Heap) (LE : List Loc) : Prop := rV = some (.int (1 : Int32)) ∧ Fr n0 LE ∧ hE = h0
set_option maxRecDepth 65536 in
set_option maxHeartbeats 40000000 in
theorem rmNe35 (l : Launch) (Z : State) (a0 : Array Value) (hw : ∀ d ∈ tables_1, d.before a0 Z = true) (ws : List Jvm.Cond)  (h0 : Heap) (n0 : Nat) (Z0 : n0 ≤ h0.size) :
    MetFree l (⟨"com/example/contextwire/contextwire/RequestId", "isNodeEnd", "(C)Z"⟩ : MethodName) (head1 (Jvm.Cond.code (⟨"com/example/contextwire/contextwire/RequestId", "isNodeEnd", "(C)Z"⟩ : MethodName) prog_20_method_3_code 1 (some .boolean) :: ws) ({ frames := 0, cells := 0, slots := 0, locals := 0 } : Room)) (fun aA UA => aA = #[(.int (35 : Int32))] ∧ Z.Warmed39 UA.vm ∧ UA.heap = h0) (fun _ _ _ _ _ => True) (fun _ UA oA UB => ∃ rV LE, oA = .returned rV ∧ QrmNe35 Z  h0 n0 rV UB.heap LE ∧ FrameEnd UA oA UB LE ({ frames := 0, cells := 0, slots := 0, locals := 0 } : Room).cells ({ frames := 0, cells := 0, slots := 0, locals := 0 } : Room).slots) := by
  refine MetFree.of_bodySF (plainFor_of_name pn_3) hisR ?_
  intro p e s m args below meth c s₁ Bd hml0 hP hK
  obtain ⟨rfl, hZ, hh⟩ := hP
  have hx := Bd.exec
  have hby := Bd.bytes
  have hml : c.maxLocals = 1 := hml0
  have hown : s.vm.findClass "com/example/contextwire/contextwire/RequestId" = some m.cls := findClass_of_methodNamed Bd.named
  have hnm := (name_of_methodNamed Bd.named Bd.method).1
  have hlk := Bd.notSynchronized
  have X0 : Stand p l e ({ frames := 0, cells := 0, slots := 0, locals := 0 } : Room) s m #[(.int (35 : Int32))] below meth c s₁ [] 0 0 := Stand.of_body Bd
  have e0 : s₁.heap = h0 := by rw [← hh, Bd.state]; rfl
  have N0 := Fr.nil n0
  show Go p e below s (QrmNe35 Z  h0 n0) ({ frames := 0, cells := 0, slots := 0, locals := 0 } : Room).cells ({ frames := 0, cells := 0, slots := 0, locals := 0 } : Room).slots s₁ (entryFrame m #[(.int (35 : Int32))] 1)
  refine Go.eq (ef_rmNe35 m ) ?_
  show Go p e below s _ _ _ s₁ (mkF m 0 #[.val (.int (35 : Int32))] [])
  refine Go.st (fun _ => XS.iloadN X0.here hx rfl (hb hby d1_0) rfl) ?_
  show Go p e below s _ _ _ s₁ (mkF m 1 #[.val (.int (35 : Int32))] [(.int (35 : Int32))])
  refine Go.st (fun _ => XS.bipush X0.here hx rfl (hb hby d1_1)) ?_
  show Go p e below s _ _ _ s₁ (mkF m 3 #[.val (.int (35 : Int32))] [(.int (46 : Int32)), (.int (35 : Int32))])
  refine Go.st (fun _ => XS.icmpNo X0.here hx rfl (hb hby d1_3) rfl (feq (by decide : ¬ ((35 : Int32) = (46 : Int32)))).1) ?_
  show Go p e below s _ _ _ s₁ (mkF m 6 #[.val (.int (35 : Int32))] [])
  refine Go.st (fun _ => XS.iloadN X0.here hx rfl (hb hby d1_6) rfl) ?_
  show Go p e below s _ _ _ s₁ (mkF m 7 #[.val (.int (35 : Int32))] [(.int (35 : Int32))])
  refine Go.st (fun _ => XS.bipush X0.here hx rfl (hb hby d1_7)) ?_
  show Go p e below s _ _ _ s₁ (mkF m 9 #[.val (.int (35 : Int32))] [(.int (95 : Int32)), (.int (35 : Int32))])
  refine Go.st (fun _ => XS.icmpNo X0.here hx rfl (hb hby d1_9) rfl (feq (by decide : ¬ ((35 : Int32) = (95 : Int32)))).1) ?_
  show Go p e below s _ _ _ s₁ (mkF m 12 #[.val (.int (35 : Int32))] [])
  refine Go.st (fun _ => XS.iloadN X0.here hx rfl (hb hby d1_12) rfl) ?_
  show Go p e below s _ _ _ s₁ (mkF m 13 #[.val (.int (35 : Int32))] [(.int (35 : Int32))])
  refine Go.st (fun _ => XS.bipush X0.here hx rfl (hb hby d1_13)) ?_
  show Go p e below s _ _ _ s₁ (mkF m 15 #[.val (.int (35 : Int32))] [(.int (35 : Int32)), (.int (35 : Int32))])
  refine Go.st (fun _ => XS.icmpNo X0.here hx rfl (hb hby d1_15) rfl (teq (by decide : (35 : Int32) = (35 : Int32))).2) ?_
  show Go p e below s _ _ _ s₁ (mkF m 18 #[.val (.int (35 : Int32))] [])
  refine Go.st (fun _ => XS.iconst X0.here hx rfl (hb hby d1_18)) ?_
  show Go p e below s _ _ _ s₁ (mkF m 19 #[.val (.int (35 : Int32))] [(.int (1 : Int32))])
  refine Go.st (fun _ => XS.goto X0.here hx rfl (pc0 := 19) (pc' := 23) rfl (hb hby d1_19) (by decide) (by decide)) ?_
  show Go p e below s _ _ _ s₁ (mkF m 23 #[.val (.int (35 : Int32))] [(.int (1 : Int32))])
  exact Go.retZ X0 hx hlk Bd.returns (hb hby d1_23) rfl (by rw [e0]; exact ⟨rfl, N0, rfl⟩) (by decide) (by decide)
theorem d1_22 : decode prog_20_method_3_code 22 = .ok (.iconst 0, 1) := by decide +kernel
theorem ef_rmNeN (m : MethodId) (ch : Int32) : entryFrame m #[(.int ch)] 1 = mkF m 0 #[.val (.int ch)] [] := by first | (simp [entryFrame, mkF, argsToLocals, Value.category]; done) | rfl
def QrmNeN (Z : State) (ch : Int32) (h0 : Heap) (n0 : Nat) (rV : Option Value) (hE : Heap) (LE : List Loc) : Prop := rV = some (.int (0 : Int32)) ∧ Fr n0 LE ∧ hE = h0
set_option maxRecDepth 65536 in
set_option maxHeartbeats 40000000 in
theorem rmNeN (l : Launch) (Z : State) (a0 : Array Value) (hw : ∀ d ∈ tables_1, d.before a0 Z = true) (ws : List Jvm.Cond) (ch : Int32) (h0 : Heap) (n0 : Nat) (Z0 : n0 ≤ h0.size) (n46 : ¬ (ch = (46 : Int32))) (n95 : ¬ (ch = (95 : Int32))) (n35 : ¬ (ch = (35 : Int32))) :
    MetFree l (⟨"com/example/contextwire/contextwire/RequestId", "isNodeEnd", "(C)Z"⟩ : MethodName) (head1 (Jvm.Cond.code (⟨"com/example/contextwire/contextwire/RequestId", "isNodeEnd", "(C)Z"⟩ : MethodName) prog_20_method_3_code 1 (some .boolean) :: ws) ({ frames := 0, cells := 0, slots := 0, locals := 0 } : Room)) (fun aA UA => aA = #[(.int ch)] ∧ Z.Warmed39 UA.vm ∧ UA.heap = h0) (fun _ _ _ _ _ => True) (fun _ UA oA UB => ∃ rV LE, oA = .returned rV ∧ QrmNeN Z ch h0 n0 rV UB.heap LE ∧ FrameEnd UA oA UB LE ({ frames := 0, cells := 0, slots := 0, locals := 0 } : Room).cells ({ frames := 0, cells := 0, slots := 0, locals := 0 } : Room).slots) := by
  refine MetFree.of_bodySF (plainFor_of_name pn_3) hisR ?_
  intro p e s m args below meth c s₁ Bd hml0 hP hK
  obtain ⟨rfl, hZ, hh⟩ := hP
  have hx := Bd.exec
  have hby := Bd.bytes
  have hml : c.maxLocals = 1 := hml0
  have hown : s.vm.findClass "com/example/contextwire/contextwire/RequestId" = some m.cls := findClass_of_methodNamed Bd.named
  have hnm := (name_of_methodNamed Bd.named Bd.method).1
  have hlk := Bd.notSynchronized
  have X0 : Stand p l e ({ frames := 0, cells := 0, slots := 0, locals := 0 } : Room) s m #[(.int ch)] below meth c s₁ [] 0 0 := Stand.of_body Bd
  have e0 : s₁.heap = h0 := by rw [← hh, Bd.state]; rfl
  have N0 := Fr.nil n0
  show Go p e below s (QrmNeN Z ch h0 n0) ({ frames := 0, cells := 0, slots := 0, locals := 0 } : Room).cells ({ frames := 0, cells := 0, slots := 0, locals := 0 } : Room).slots s₁ (entryFrame m #[(.int ch)] 1)
  refine Go.eq (ef_rmNeN m ch) ?_
  show Go p e below s _ _ _ s₁ (mkF m 0 #[.val (.int ch)] [])
  refine Go.st (fun _ => XS.iloadN X0.here hx rfl (hb hby d1_0) rfl) ?_
  show Go p e below s _ _ _ s₁ (mkF m 1 #[.val (.int ch)] [(.int ch)])
  refine Go.st (fun _ => XS.bipush X0.here hx rfl (hb hby d1_1)) ?_
  show Go p e below s _ _ _ s₁ (mkF m 3 #[.val (.int ch)] [(.int (46 : Int32)), (.int ch)])
  refine Go.st (fun _ => XS.icmpNo X0.here hx rfl (hb hby d1_3) rfl (feq n46).1) ?_
  show Go p e below s _ _ _ s₁ (mkF m 6 #[.val (.int ch)] [])
  refine Go.st (fun _ => XS.iloadN X0.here hx rfl (hb hby d1_6) rfl) ?_
  show Go p e below s _ _ _ s₁ (mkF m 7 #[.val (.int ch)] [(.int ch)])
  refine Go.st (fun _ => XS.bipush X0.here hx rfl (hb hby d1_7)) ?_
  show Go p e below s _ _ _ s₁ (mkF m 9 #[.val (.int ch)] [(.int (95 : Int32)), (.int ch)])
  refine Go.st (fun _ => XS.icmpNo X0.here hx rfl (hb hby d1_9) rfl (feq n95).1) ?_
  show Go p e below s _ _ _ s₁ (mkF m 12 #[.val (.int ch)] [])
  refine Go.st (fun _ => XS.iloadN X0.here hx rfl (hb hby d1_12) rfl) ?_
  show Go p e below s _ _ _ s₁ (mkF m 13 #[.val (.int ch)] [(.int ch)])
  refine Go.st (fun _ => XS.bipush X0.here hx rfl (hb hby d1_13)) ?_
  show Go p e below s _ _ _ s₁ (mkF m 15 #[.val (.int ch)] [(.int (35 : Int32)), (.int ch)])
  refine Go.st (fun _ => XS.icmpYes X0.here hx rfl (pc0 := 15) (pc' := 22) rfl (hb hby d1_15) rfl (feq n35).2 (by decide) (by decide)) ?_
  show Go p e below s _ _ _ s₁ (mkF m 22 #[.val (.int ch)] [])
  refine Go.st (fun _ => XS.iconst X0.here hx rfl (hb hby d1_22)) ?_
  show Go p e below s _ _ _ s₁ (mkF m 23 #[.val (.int ch)] [(.int (0 : Int32))])
  exact Go.retZ X0 hx hlk Bd.returns (hb hby d1_23) rfl (by rw [e0]; exact ⟨rfl, N0, rfl⟩) (by decide) (by decide)
theorem pd_14 : parseMethodDescriptor "(C)Ljava/lang/String;" = some ⟨[.char], some (.object "java/lang/String")⟩ := by decide +kernel
theorem pd_15 : parseMethodDescriptor "(Ljava/lang/String;)Z" = some ⟨[(.object "java/lang/String")], some .boolean⟩ := by decide +kernel
theorem pn_4 : plainName "com/example/contextwire/contextwire/RequestIdIsNodeEndPinLaw" = true := by first | (simp [plainName, overriddenIn]; done) | decide +kernel
theorem ef_rm0 (m : MethodId) (na : Int32) (nb : Int32) : entryFrame m #[(.int na), (.int nb)] maxLocals = mkF m 0 #[.val (.int na), .val (.int nb), .unset, .unset, .unset, .unset, .unset] [] := by first | (simp [entryFrame, mkF, argsToLocals, Value.category, maxLocals]; done) | rfl
def Qrm0 (Z : State) (na : Int32) (nb : Int32) (cs : Int32) (fm : Value) (h0 : Heap) (n0 : Nat) (rV : Option Value) (hE : Heap) (LE : List Loc) : Prop := rV = some (.int (1 : Int32)) ∧ Fr n0 LE
set_option maxRecDepth 65536 in
set_option maxHeartbeats 40000000 in
theorem rm0 (l : Launch) (Z : State) (a0 : Array Value) (hw : ∀ d ∈ tables_1, d.before a0 Z = true) (ws : List Jvm.Cond) (na : Int32) (nb : Int32) (cs : Int32) (fm : Value) (h0 : Heap) (n0 : Nat) (Z0 : n0 ≤ h0.size) (S_COMPACT_STRINGS : Sta Z h0 "java/lang/String" "COMPACT_STRINGS" "Z" (.int cs)) (hcs : ¬ (cs = (0 : Int32))) (S_SIOOBE_FORMATTER : Sta Z h0 "jdk/internal/util/Preconditions" "SIOOBE_FORMATTER" "Ljava/util/function/BiFunction;" fm) (rf_fm : fm.isRef = true) :
    MetFree l x (head1 (Jvm.Cond.code x code maxLocals ret :: ws) room_1) (fun aA UA => aA = #[(.int na), (.int nb)] ∧ Z.Warmed39 UA.vm ∧ UA.heap = h0 ∧ CHv Z consts_1 UA.vm h0) (fun _ _ _ _ _ => True) (fun _ UA oA UB => ∃ rV LE, oA = .returned rV ∧ Qrm0 Z na nb cs fm h0 n0 rV UB.heap LE ∧ CHr Z consts_1 UA.vm UA.heap UB.vm UB.heap ∧ ReturnedEndW UA oA UB LE room_1.cells room_1.slots) := by
  refine MetFree.of_bodySF (plainFor_of_name pn_4) hisR ?_
  intro p e s m args below meth c s₁ Bd hml0 hP hK
  obtain ⟨rfl, hZ, hh, hCH⟩ := hP
  have wS := ws1 hw
  have hEL := ew1 hw
  have HE0 := OwnH.start hh hCH
  have hZ : Z.Warmed39 (s.setVm s.vm).vm := hZ
  have hx := Bd.exec
  have hby := Bd.bytes
  have hml : c.maxLocals = 7 := hml0
  have hown : (s.setVm s.vm).vm.findClass "com/example/contextwire/contextwire/RequestIdIsNodeEndPinLaw" = some m.cls := findClass_of_methodNamed Bd.named
  have hnm := (name_of_methodNamed Bd.named Bd.method).1
  have hlk := Bd.notSynchronized
  have X0 : Stand p l e room_1 (s.setVm s.vm) m #[(.int na), (.int nb)] below meth c s₁ [] 0 0 := Stand.of_body Bd
  have e0 : s₁.heap = h0 := by rw [← hh, Bd.state]; rfl
  have N0 := Fr.nil n0
  show GoS p e below s Z consts_1 (Qrm0 Z na nb cs fm h0 n0) room_1.cells room_1.slots s₁ (entryFrame m #[(.int na), (.int nb)] maxLocals)
  refine GoS.eq (ef_rm0 m na nb) ?_
  show GoS p e below s _ _ _ _ _ s₁ (mkF m 0 #[.val (.int na), .val (.int nb), .unset, .unset, .unset, .unset, .unset] [])
  refine GoS.st (fun _ => XS.iloadN X0.here hx rfl (hb hby at_0) rfl) ?_
  show GoS p e below s _ _ _ _ _ s₁ (mkF m 1 #[.val (.int na), .val (.int nb), .unset, .unset, .unset, .unset, .unset] [(.int na)])
  refine GoS.st (fun tG => X0.ldcInt hx hown (mvT hZ (hw _ (List.mem_of_getElem? (i := 0) rfl))) (g := (mkF m 1 #[.val (.int na), .val (.int nb), .unset, .unset, .unset, .unset, .unset] [(.int na)])) rfl (hb hby at_1) tG) ?_
  show GoS p e below s _ _ _ _ _ s₁ (mkF m 3 #[.val (.int na), .val (.int nb), .unset, .unset, .unset, .unset, .unset] [(.int (65535 : Int32)), (.int na)])
  refine GoS.st (fun _ => XS.iand X0.here hx rfl (hb hby at_3) rfl) ?_
  show GoS p e below s _ _ _ _ _ s₁ (mkF m 4 #[.val (.int na), .val (.int nb), .unset, .unset, .unset, .unset, .unset] [(.int (na &&& (65535 : Int32)))])
  refine GoS.st (fun _ => XS.i2c X0.here hx rfl (hb hby at_4) rfl) ?_
  show GoS p e below s _ _ _ _ _ s₁ (mkF m 5 #[.val (.int na), .val (.int nb), .unset, .unset, .unset, .unset, .unset] [(.int ((na &&& (65535 : Int32)).toUInt32.toUInt16.toUInt32.toInt32))])
  obtain ⟨ch_1, hch_1⟩ : ∃ z, z = ((na &&& (65535 : Int32)).toUInt32.toUInt16.toUInt32.toInt32) := ⟨_, rfl⟩
  rw [← hch_1]
  show GoS p e below s _ _ _ _ _ s₁ (mkF m 5 #[.val (.int na), .val (.int nb), .unset, .unset, .unset, .unset, .unset] [(.int ch_1)])
  by_cases hc_2 : ch_1 = (46 : Int32)
  · rw [hc_2]
    show GoS p e below s _ _ _ _ _ s₁ (mkF m 5 #[.val (.int na), .val (.int nb), .unset, .unset, .unset, .unset, .unset] [(.int (46 : Int32))])
    refine GoS.st (fun _ => XS.istoreN X0.here hx rfl (hb hby at_5) rfl (l' := #[.val (.int na), .val (.int nb), .val (.int (46 : Int32)), .unset, .unset, .unset, .unset]) rfl) ?_
    show GoS p e below s _ _ _ _ _ s₁ (mkF m 6 #[.val (.int na), .val (.int nb), .val (.int (46 : Int32)), .unset, .unset, .unset, .unset] [])
    refine GoS.st (fun _ => XS.iloadN X0.here hx rfl (hb hby at_6) rfl) ?_
    show GoS p e below s _ _ _ _ _ s₁ (mkF m 7 #[.val (.int na), .val (.int nb), .val (.int (46 : Int32)), .unset, .unset, .unset, .unset] [(.int nb)])
    refine GoS.st (fun tG => X0.ldcInt hx hown (mvT hZ (hw _ (List.mem_of_getElem? (i := 1) rfl))) (g := (mkF m 7 #[.val (.int na), .val (.int nb), .val (.int (46 : Int32)), .unset, .unset, .unset, .unset] [(.int nb)])) rfl (hb hby at_7) tG) ?_
    show GoS p e below s _ _ _ _ _ s₁ (mkF m 9 #[.val (.int na), .val (.int nb), .val (.int (46 : Int32)), .unset, .unset, .unset, .unset] [(.int (2147483647 : Int32)), (.int nb)])
    refine GoS.st (fun _ => XS.iand X0.here hx rfl (hb hby at_9) rfl) ?_
    show GoS p e below s _ _ _ _ _ s₁ (mkF m 10 #[.val (.int na), .val (.int nb), .val (.int (46 : Int32)), .unset, .unset, .unset, .unset] [(.int (nb &&& (2147483647 : Int32)))])
    refine GoS.st (fun _ => XS.iconst X0.here hx rfl (hb hby at_10)) ?_
    show GoS p e below s _ _ _ _ _ s₁ (mkF m 11 #[.val (.int na), .val (.int nb), .val (.int (46 : Int32)), .unset, .unset, .unset, .unset] [(.int (3 : Int32)), (.int (nb &&& (2147483647 : Int32)))])
    refine GoS.st (fun _ => iremM X0 hx rfl (hb hby at_11) rfl (by decide)) ?_
    show GoS p e below s _ _ _ _ _ s₁ (mkF m 12 #[.val (.int na), .val (.int nb), .val (.int (46 : Int32)), .unset, .unset, .unset, .unset] [(.int ((nb &&& (2147483647 : Int32)) % (3 : Int32)))])
    refine GoS.st (fun _ => XS.istoreN X0.here hx rfl (hb hby at_12) rfl (l' := #[.val (.int na), .val (.int nb), .val (.int (46 : Int32)), .val (.int ((nb &&& (2147483647 : Int32)) % (3 : Int32))), .unset, .unset, .unset]) rfl) ?_
    show GoS p e below s _ _ _ _ _ s₁ (mkF m 13 #[.val (.int na), .val (.int nb), .val (.int (46 : Int32)), .val (.int ((nb &&& (2147483647 : Int32)) % (3 : Int32))), .unset, .unset, .unset] [])
    obtain ⟨rr_3, hrr_3⟩ : ∃ z, z = ((nb &&& (2147483647 : Int32)) % (3 : Int32)) := ⟨_, rfl⟩
    rw [← hrr_3]
    show GoS p e below s _ _ _ _ _ s₁ (mkF m 13 #[.val (.int na), .val (.int nb), .val (.int (46 : Int32)), .val (.int rr_3), .unset, .unset, .unset] [])
    refine GoS.st (fun _ => XS.iloadN X0.here hx rfl (hb hby at_13) rfl) ?_
    show GoS p e below s _ _ _ _ _ s₁ (mkF m 14 #[.val (.int na), .val (.int nb), .val (.int (46 : Int32)), .val (.int rr_3), .unset, .unset, .unset] [(.int rr_3)])
    by_cases hc_4 : rr_3 = (0 : Int32)
    · refine GoS.st (fun _ => XS.ifNo X0.here hx rfl (hb hby at_14) rfl ((if0 _ _).trans (teq hc_4).2)) ?_
      show GoS p e below s _ _ _ _ _ s₁ (mkF m 17 #[.val (.int na), .val (.int nb), .val (.int (46 : Int32)), .val (.int rr_3), .unset, .unset, .unset] [])
      refine GoS.st (fun _ => XS.bipush X0.here hx rfl (hb hby at_17)) ?_
      show GoS p e below s _ _ _ _ _ s₁ (mkF m 19 #[.val (.int na), .val (.int nb), .val (.int (46 : Int32)), .val (.int rr_3), .unset, .unset, .unset] [(.int (46 : Int32))])
      refine GoS.st (fun _ => XS.goto X0.here hx rfl (pc0 := 19) (pc' := 34) rfl (hb hby at_19) (by decide) (by decide)) ?_
      show GoS p e below s _ _ _ _ _ s₁ (mkF m 34 #[.val (.int na), .val (.int nb), .val (.int (46 : Int32)), .val (.int rr_3), .unset, .unset, .unset] [(.int (46 : Int32))])
      refine GoS.st (fun _ => XS.istore X0.here hx rfl (hb hby at_34) rfl (l' := #[.val (.int na), .val (.int nb), .val (.int (46 : Int32)), .val (.int rr_3), .val (.int (46 : Int32)), .unset, .unset]) rfl) ?_
      show GoS p e below s _ _ _ _ _ s₁ (mkF m 36 #[.val (.int na), .val (.int nb), .val (.int (46 : Int32)), .val (.int rr_3), .val (.int (46 : Int32)), .unset, .unset] [])
      refine GoS.st (fun _ => XS.iloadN X0.here hx rfl (hb hby at_36) rfl) ?_
      show GoS p e below s _ _ _ _ _ s₁ (mkF m 37 #[.val (.int na), .val (.int nb), .val (.int (46 : Int32)), .val (.int rr_3), .val (.int (46 : Int32)), .unset, .unset] [(.int (46 : Int32))])
      obtain ⟨_, _, ⟨T_5, L_5, kc_5, nc_5⟩, -, X_5, ⟨Lc_5, hQ_5, l_5, y_5, z_5⟩, st_5⟩ := Jvm.LawKit.callS X0 hx (y := (⟨"com/example/contextwire/contextwire/RequestId", "isNodeEnd", "(C)Z"⟩ : MethodName)) hown (mvT hZ (hw _ (List.mem_of_getElem? (i := 2) rfl))) (mvT hZ (hw _ (List.mem_of_getElem? (i := 3) rfl))) (mvT hZ (hw _ (List.mem_of_getElem? (i := 4) rfl))) (mvT hZ (hw _ (List.mem_of_getElem? (i := 5) rfl))) (by decide) (backOf (W := 0) (rmNe46 l Z a0 hw []  h0 n0 Z0 ) hZ (hw _ (List.mem_of_getElem? (i := 5) rfl)) (hw _ (List.mem_of_getElem? (i := 4) rfl)) (by decide) (by decide)) (g := (mkF m 37 #[.val (.int na), .val (.int nb), .val (.int (46 : Int32)), .val (.int rr_3), .val (.int (46 : Int32)), .unset, .unset] [(.int (46 : Int32))])) rfl (by rw [hml]; rfl) (argsL := [(.int (46 : Int32))]) (rest := []) (lenOf pd_0 rfl) rfl (by show 2 * 0 + _ ≤ _; exact Nat.le_of_eq rfl) (hb hby at_37) (fun _ _ => ⟨rfl, e0, (by decide : 0 + 0 ≤ _), (by decide : 0 + 0 ≤ _)⟩)
      dsimp only [Pt.U, Pt.locs, Pt.cells, Pt.slots] at X_5 l_5 y_5 z_5 st_5 hQ_5
      obtain rfl : kc_5 = 0 := y_5
      obtain rfl : nc_5 = 0 := z_5
      obtain ⟨h_5, e_5⟩ : ∃ hh, T_5.heap = hh := ⟨_, rfl⟩
      rw [e_5] at hQ_5
      obtain ⟨rfl, N_5q, sm_5⟩ := hQ_5
      have N_5 : Fr n0 L_5 := by rw [l_5]; exact Fr.app N0 N_5q
      refine GoS.st st_5 ?_
      rw [sm_5] at e_5
      show GoS p e below s _ _ _ _ _ T_5 (mkF m 40 #[.val (.int na), .val (.int nb), .val (.int (46 : Int32)), .val (.int rr_3), .val (.int (46 : Int32)), .unset, .unset] [(.int (1 : Int32))])
      refine GoS.st (fun _ => XS.istore X_5.here hx rfl (hb hby at_40) rfl (l' := #[.val (.int na), .val (.int nb), .val (.int (46 : Int32)), .val (.int rr_3), .val (.int (46 : Int32)), .val (.int (1 : Int32)), .unset]) rfl) ?_
      show GoS p e below s _ _ _ _ _ T_5 (mkF m 42 #[.val (.int na), .val (.int nb), .val (.int (46 : Int32)), .val (.int rr_3), .val (.int (46 : Int32)), .val (.int (1 : Int32)), .unset] [])
      refine GoS.st (fun _ => XS.iloadN X_5.here hx rfl (hb hby at_42) rfl) ?_
      show GoS p e below s _ _ _ _ _ T_5 (mkF m 43 #[.val (.int na), .val (.int nb), .val (.int (46 : Int32)), .val (.int rr_3), .val (.int (46 : Int32)), .val (.int (1 : Int32)), .unset] [(.int (46 : Int32))])
      refine GoS.st (fun _ => XS.bipush X_5.here hx rfl (hb hby at_43)) ?_
      show GoS p e below s _ _ _ _ _ T_5 (mkF m 45 #[.val (.int na), .val (.int nb), .val (.int (46 : Int32)), .val (.int rr_3), .val (.int (46 : Int32)), .val (.int (1 : Int32)), .unset] [(.int (46 : Int32)), (.int (46 : Int32))])
      refine GoS.st (fun _ => XS.icmpYes X_5.here hx rfl (pc0 := 45) (pc' := 60) rfl (hb hby at_45) rfl (teq (by decide : (46 : Int32) = (46 : Int32))).1 (by decide) (by decide)) ?_
      show GoS p e below s _ _ _ _ _ T_5 (mkF m 60 #[.val (.int na), .val (.int nb), .val (.int (46 : Int32)), .val (.int rr_3), .val (.int (46 : Int32)), .val (.int (1 : Int32)), .unset] [])
      refine GoS.st (fun _ => XS.iconst X_5.here hx rfl (hb hby at_60)) ?_
      show GoS p e below s _ _ _ _ _ T_5 (mkF m 61 #[.val (.int na), .val (.int nb), .val (.int (46 : Int32)), .val (.int rr_3), .val (.int (46 : Int32)), .val (.int (1 : Int32)), .unset] [(.int (1 : Int32))])
      refine GoS.st (fun _ => XS.goto X_5.here hx rfl (pc0 := 61) (pc' := 65) rfl (hb hby at_61) (by decide) (by decide)) ?_
      show GoS p e below s _ _ _ _ _ T_5 (mkF m 65 #[.val (.int na), .val (.int nb), .val (.int (46 : Int32)), .val (.int rr_3), .val (.int (46 : Int32)), .val (.int (1 : Int32)), .unset] [(.int (1 : Int32))])
      refine GoS.st (fun _ => XS.istore X_5.here hx rfl (hb hby at_65) rfl (l' := #[.val (.int na), .val (.int nb), .val (.int (46 : Int32)), .val (.int rr_3), .val (.int (46 : Int32)), .val (.int (1 : Int32)), .val (.int (1 : Int32))]) rfl) ?_
      show GoS p e below s _ _ _ _ _ T_5 (mkF m 67 #[.val (.int na), .val (.int nb), .val (.int (46 : Int32)), .val (.int rr_3), .val (.int (46 : Int32)), .val (.int (1 : Int32)), .val (.int (1 : Int32))] [])
      refine GoS.st (fun _ => XS.iload X_5.here hx rfl (hb hby at_67) rfl) ?_
      show GoS p e below s _ _ _ _ _ T_5 (mkF m 69 #[.val (.int na), .val (.int nb), .val (.int (46 : Int32)), .val (.int rr_3), .val (.int (46 : Int32)), .val (.int (1 : Int32)), .val (.int (1 : Int32))] [(.int (1 : Int32))])
      refine GoS.st (fun _ => XS.iload X_5.here hx rfl (hb hby at_69) rfl) ?_
      show GoS p e below s _ _ _ _ _ T_5 (mkF m 71 #[.val (.int na), .val (.int nb), .val (.int (46 : Int32)), .val (.int rr_3), .val (.int (46 : Int32)), .val (.int (1 : Int32)), .val (.int (1 : Int32))] [(.int (1 : Int32)), (.int (1 : Int32))])
      refine GoS.st (fun _ => XS.icmpYes X_5.here hx rfl (pc0 := 71) (pc' := 76) rfl (hb hby at_71) rfl (teq (by decide : (1 : Int32) = (1 : Int32))).1 (by decide) (by decide)) ?_
      show GoS p e below s _ _ _ _ _ T_5 (mkF m 76 #[.val (.int na), .val (.int nb), .val (.int (46 : Int32)), .val (.int rr_3), .val (.int (46 : Int32)), .val (.int (1 : Int32)), .val (.int (1 : Int32))] [])
      refine GoS.st (fun _ => XS.iload X_5.here hx rfl (hb hby at_76) rfl) ?_
      show GoS p e below s _ _ _ _ _ T_5 (mkF m 78 #[.val (.int na), .val (.int nb), .val (.int (46 : Int32)), .val (.int rr_3), .val (.int (46 : Int32)), .val (.int (1 : Int32)), .val (.int (1 : Int32))] [(.int (1 : Int32))])
      refine GoS.st (fun _ => XS.ifNo X_5.here hx rfl (hb hby at_78) rfl ((if0 _ _).trans (feq (by decide : ¬ ((1 : Int32) = (0 : Int32)))).1)) ?_
      show GoS p e below s _ _ _ _ _ T_5 (mkF m 81 #[.val (.int na), .val (.int nb), .val (.int (46 : Int32)), .val (.int rr_3), .val (.int (46 : Int32)), .val (.int (1 : Int32)), .val (.int (1 : Int32))] [])
      refine GoS.st (fun _ => XS.iloadN X_5.here hx rfl (hb hby at_81) rfl) ?_
      show GoS p e below s _ _ _ _ _ T_5 (mkF m 82 #[.val (.int na), .val (.int nb), .val (.int (46 : Int32)), .val (.int rr_3), .val (.int (46 : Int32)), .val (.int (1 : Int32)), .val (.int (1 : Int32))] [(.int (46 : Int32))])
      obtain ⟨_, _, ⟨T_6, L_6, kc_6, nc_6⟩, -, X_6, ⟨Lc_6, hQ_6, l_6, y_6, z_6⟩, st_6⟩ := Jvm.LawKit.callS X_5 hx (y := (⟨"java/lang/String", "valueOf", "(C)Ljava/lang/String;"⟩ : MethodName)) hown (mvT hZ (hw _ (List.mem_of_getElem? (i := 6) rfl))) (mvT hZ (hw _ (List.mem_of_getElem? (i := 7) rfl))) (mvT hZ (hw _ (List.mem_of_getElem? (i := 8) rfl))) (mvT hZ (hw _ (List.mem_of_getElem? (i := 9) rfl))) (by decide) (backOf (W := 0) (rmVo l Z a0 hw [] (46 : Int32) cs h0 n0 Z0 S_COMPACT_STRINGS hcs (by decide)) hZ (hw _ (List.mem_of_getElem? (i := 9) rfl)) (hw _ (List.mem_of_getElem? (i := 8) rfl)) (by decide) (by decide)) (g := (mkF m 82 #[.val (.int na), .val (.int nb), .val (.int (46 : Int32)), .val (.int rr_3), .val (.int (46 : Int32)), .val (.int (1 : Int32)), .val (.int (1 : Int32))] [(.int (46 : Int32))])) rfl (by rw [hml]; rfl) (argsL := [(.int (46 : Int32))]) (rest := []) (lenOf pd_14 rfl) rfl (by show 2 * 0 + _ ≤ _; exact Nat.le_of_eq rfl) (hb hby at_82) (fun _ _ => ⟨rfl, e_5, (by decide : 0 + 2 ≤ _), (by decide : 0 + 5 ≤ _)⟩)
      dsimp only [Pt.U, Pt.locs, Pt.cells, Pt.slots] at X_6 l_6 y_6 z_6 st_6 hQ_6
      obtain rfl : kc_6 = 2 := y_6
      obtain rfl : nc_6 = 5 := z_6
      obtain ⟨h_6, e_6⟩ : ∃ hh, T_6.heap = hh := ⟨_, rfl⟩
      rw [e_6] at hQ_6
      obtain ⟨b__6, d__6, kd__6, rfl, N_6q, K_6, p_6_0, p_6_1, p_6_2, p_6_3, p_6_4, p_6_5, p_6_6, p_6_7, p_6_8⟩ := hQ_6
      have N_6 : Fr n0 L_6 := by rw [l_6]; exact Fr.app N_5 N_6q
      refine GoS.st st_6 ?_
      have KK_6 : Keep h0 h_6 [] := (Keep.refl h0 []).trans K_6 all0
      have z_6q : n0 ≤ h_6.size := Nat.le_trans Z0 K_6.1
      have ns_6 : ∀ x ∈ ([] : List Addr), ∀ cell : Cell, h0[x]? = some cell → cell.vm.isStatics = false := all0
      have HE_6 := HE0.keep K_6 sf0
      have sz_6_0 : h0.size ≤ b__6 := Nat.le_trans (Keep.refl h0 []).1 p_6_0
      have sz_6_5 : h0.size ≤ d__6 := Nat.le_trans (Keep.refl h0 []).1 p_6_5
      show GoS p e below s _ _ _ _ _ T_6 (mkF m 85 #[.val (.int na), .val (.int nb), .val (.int (46 : Int32)), .val (.int rr_3), .val (.int (46 : Int32)), .val (.int (1 : Int32)), .val (.int (1 : Int32))] [(.ref b__6)])
      have W_7 := p_6_7
      rw [show ((46 : Int32)).toInt8.toInt32 = (46 : Int32) from by decide] at W_7
      have f_9 := (own_sta_keep S_COMPACT_STRINGS K_6 ns_6)
      have f_10 := (own_sta_keep S_SIOOBE_FORMATTER K_6 ns_6)
      obtain ⟨_, _, ⟨T_8, L_8, kc_8, nc_8⟩, -, X_8, sn_8, gg_8, ⟨Lc_8, hQ_8, l_8, y_8, z_8, CH_8⟩, st_8⟩ := callSS X_6 hx (y := (⟨"com/example/contextwire/contextwire/RequestId", "isValid", "(Ljava/lang/String;)Z"⟩ : MethodName)) hown (mvT hZ (hw _ (List.mem_of_getElem? (i := 32) rfl))) (mvT hZ (hw _ (List.mem_of_getElem? (i := 33) rfl))) (mvT hZ (hw _ (List.mem_of_getElem? (i := 4) rfl))) (mvT hZ (hw _ (List.mem_of_getElem? (i := 34) rfl))) (by decide) (backOfSH (s := s) (vm0 := s.vm) (W := 0) (rmVa46 l Z a0 hw [] b__6 cs d__6 kd__6 fm h_6 n0 z_6q f_9 hcs f_10 rf_fm p_6_2 p_6_4 p_6_3 W_7) hZ (hw _ (List.mem_of_getElem? (i := 34) rfl)) (hw _ (List.mem_of_getElem? (i := 4) rfl)) (by decide) (by decide) hEL HE_6.chv) (g := (mkF m 85 #[.val (.int na), .val (.int nb), .val (.int (46 : Int32)), .val (.int rr_3), .val (.int (46 : Int32)), .val (.int (1 : Int32)), .val (.int (1 : Int32))] [(.ref b__6)])) rfl (by rw [hml]; rfl) (argsL := [(.ref b__6)]) (rest := []) (lenOf pd_15 rfl) rfl (by show 2 * 0 + _ ≤ _; exact Nat.le_of_eq rfl) (hb hby at_85) (fun _ _ => ⟨rfl, e_6, (by decide : 2 + 2 ≤ _), (by decide : 5 + 36 ≤ _)⟩)
      dsimp only [Pt.U, Pt.locs, Pt.cells, Pt.slots] at X_8 l_8 y_8 z_8 st_8 hQ_8
      obtain rfl : kc_8 = 4 := y_8
      obtain rfl : nc_8 = 41 := z_8
      dsimp only [Pt.U, Pt.locs, Pt.cells, Pt.slots] at sn_8 gg_8 CH_8
      obtain ⟨X_8, HE_8, hZ, hown⟩ := OwnH.call HE_6 e_6 X_8 sn_8 gg_8 hZ hown CH_8
      obtain ⟨h_8, e_8⟩ : ∃ hh, T_8.heap = hh := ⟨_, rfl⟩
      rw [e_8] at hQ_8 HE_8 CH_8
      obtain ⟨rfl, N_8q, K_8⟩ := hQ_8
      have N_8 : Fr n0 L_8 := by rw [l_8]; exact Fr.app N_6 N_8q
      refine GoS.st (fun _ kk => st_8.trans kk) ?_
      have KK_8 : Keep h0 h_8 [] := KK_6.trans K_8 all0
      have z_8q : n0 ≤ h_8.size := Nat.le_trans z_6q K_8.1
      have ns_8 : ∀ x ∈ ([] : List Addr), ∀ cell : Cell, h_6[x]? = some cell → cell.vm.isStatics = false := all0
      show GoS p e below s _ _ _ _ _ T_8 (mkF m 88 #[.val (.int na), .val (.int nb), .val (.int (46 : Int32)), .val (.int rr_3), .val (.int (46 : Int32)), .val (.int (1 : Int32)), .val (.int (1 : Int32))] [(.int (1 : Int32))])
      refine GoS.st (fun _ => XS.ifYes X_8.here hx rfl (pc0 := 88) (pc' := 93) rfl (hb hby at_88) rfl ((if0 _ _).trans (feq (by decide : ¬ ((1 : Int32) = (0 : Int32)))).2) (by decide) (by decide)) ?_
      show GoS p e below s _ _ _ _ _ T_8 (mkF m 93 #[.val (.int na), .val (.int nb), .val (.int (46 : Int32)), .val (.int rr_3), .val (.int (46 : Int32)), .val (.int (1 : Int32)), .val (.int (1 : Int32))] [])
      refine GoS.st (fun _ => XS.iload X_8.here hx rfl (hb hby at_93) rfl) ?_
      show GoS p e below s _ _ _ _ _ T_8 (mkF m 95 #[.val (.int na), .val (.int nb), .val (.int (46 : Int32)), .val (.int rr_3), .val (.int (46 : Int32)), .val (.int (1 : Int32)), .val (.int (1 : Int32))] [(.int (46 : Int32))])
      obtain ⟨_, _, ⟨T_11, L_11, kc_11, nc_11⟩, -, X_11, ⟨Lc_11, hQ_11, l_11, y_11, z_11⟩, st_11⟩ := Jvm.LawKit.callS X_8 hx (y := (⟨"com/example/contextwire/contextwire/RequestId", "isNodeEnd", "(C)Z"⟩ : MethodName)) hown (mvT hZ (hw _ (List.mem_of_getElem? (i := 2) rfl))) (mvT hZ (hw _ (List.mem_of_getElem? (i := 3) rfl))) (mvT hZ (hw _ (List.mem_of_getElem? (i := 4) rfl))) (mvT hZ (hw _ (List.mem_of_getElem? (i := 5) rfl))) (by decide) (backOf (W := 0) (rmNe46 l Z a0 hw []  h_8 n0 z_8q ) hZ (hw _ (List.mem_of_getElem? (i := 5) rfl)) (hw _ (List.mem_of_getElem? (i := 4) rfl)) (by decide) (by decide)) (g := (mkF m 95 #[.val (.int na), .val (.int nb), .val (.int (46 : Int32)), .val (.int rr_3), .val (.int (46 : Int32)), .val (.int (1 : Int32)), .val (.int (1 : Int32))] [(.int (46 : Int32))])) rfl (by rw [hml]; rfl) (argsL := [(.int (46 : Int32))]) (rest := []) (lenOf pd_0 rfl) rfl (by show 2 * 0 + _ ≤ _; exact Nat.le_of_eq rfl) (hb hby at_95) (fun _ _ => ⟨rfl, e_8, (by decide : 4 + 0 ≤ _), (by decide : 41 + 0 ≤ _)⟩)
      dsimp only [Pt.U, Pt.locs, Pt.cells, Pt.slots] at X_11 l_11 y_11 z_11 st_11 hQ_11
      obtain rfl : kc_11 = 4 := y_11
      obtain rfl : nc_11 = 41 := z_11
      obtain ⟨h_11, e_11⟩ : ∃ hh, T_11.heap = hh := ⟨_, rfl⟩
      rw [e_11] at hQ_11
      obtain ⟨rfl, N_11q, sm_11⟩ := hQ_11
      have N_11 : Fr n0 L_11 := by rw [l_11]; exact Fr.app N_8 N_11q
      refine GoS.st st_11 ?_
      rw [sm_11] at e_11
      show GoS p e below s _ _ _ _ _ T_11 (mkF m 98 #[.val (.int na), .val (.int nb), .val (.int (46 : Int32)), .val (.int rr_3), .val (.int (46 : Int32)), .val (.int (1 : Int32)), .val (.int (1 : Int32))] [(.int (1 : Int32))])
      refine GoS.st (fun _ => XS.ifYes X_11.here hx rfl (pc0 := 98) (pc' := 103) rfl (hb hby at_98) rfl ((if0 _ _).trans (feq (by decide : ¬ ((1 : Int32) = (0 : Int32)))).2) (by decide) (by decide)) ?_
      show GoS p e below s _ _ _ _ _ T_11 (mkF m 103 #[.val (.int na), .val (.int nb), .val (.int (46 : Int32)), .val (.int rr_3), .val (.int (46 : Int32)), .val (.int (1 : Int32)), .val (.int (1 : Int32))] [])
      refine GoS.st (fun _ => XS.iload X_11.here hx rfl (hb hby at_103) rfl) ?_
      show GoS p e below s _ _ _ _ _ T_11 (mkF m 105 #[.val (.int na), .val (.int nb), .val (.int (46 : Int32)), .val (.int rr_3), .val (.int (46 : Int32)), .val (.int (1 : Int32)), .val (.int (1 : Int32))] [(.int (46 : Int32))])
      have f_13 := (own_sta_keep f_9 K_8 ns_8)
      obtain ⟨_, _, ⟨T_12, L_12, kc_12, nc_12⟩, -, X_12, ⟨Lc_12, hQ_12, l_12, y_12, z_12⟩, st_12⟩ := Jvm.LawKit.callS X_11 hx (y := (⟨"java/lang/String", "valueOf", "(C)Ljava/lang/String;"⟩ : MethodName)) hown (mvT hZ (hw _ (List.mem_of_getElem? (i := 6) rfl))) (mvT hZ (hw _ (List.mem_of_getElem? (i := 7) rfl))) (mvT hZ (hw _ (List.mem_of_getElem? (i := 8) rfl))) (mvT hZ (hw _ (List.mem_of_getElem? (i := 9) rfl))) (by decide) (backOf (W := 0) (rmVo l Z a0 hw [] (46 : Int32) cs h_8 n0 z_8q f_13 hcs (by decide)) hZ (hw _ (List.mem_of_getElem? (i := 9) rfl)) (hw _ (List.mem_of_getElem? (i := 8) rfl)) (by decide) (by decide)) (g := (mkF m 105 #[.val (.int na), .val (.int nb), .val (.int (46 : Int32)), .val (.int rr_3), .val (.int (46 : Int32)), .val (.int (1 : Int32)), .val (.int (1 : Int32))] [(.int (46 : Int32))])) rfl (by rw [hml]; rfl) (argsL := [(.int (46 : Int32))]) (rest := []) (lenOf pd_14 rfl) rfl (by show 2 * 0 + _ ≤ _; exact Nat.le_of_eq rfl) (hb hby at_105) (fun _ _ => ⟨rfl, e_11, (by decide : 4 + 2 ≤ _), (by decide : 41 + 5 ≤ _)⟩)
      dsimp only [Pt.U, Pt.locs, Pt.cells, Pt.slots] at X_12 l_12 y_12 z_12 st_12 hQ_12
      obtain rfl : kc_12 = 6 := y_12
      obtain rfl : nc_12 = 46 := z_12
      obtain ⟨h_12, e_12⟩ : ∃ hh, T_12.heap = hh := ⟨_, rfl⟩
      rw [e_12] at hQ_12
      obtain ⟨b__12, d__12, kd__12, rfl, N_12q, K_12, p_12_0, p_12_1, p_12_2, p_12_3, p_12_4, p_12_5, p_12_6, p_12_7, p_12_8⟩ := hQ_12
      have N_12 : Fr n0 L_12 := by rw [l_12]; exact Fr.app N_11 N_12q
      refine GoS.st st_12 ?_
      have f_14 := (p_6_2.keep K_8)
      have ne_b__6_b__12 : b__6 ≠ b__12 := Nat.ne_of_lt (Nat.lt_of_lt_of_le f_14.lt p_12_0)
      have f_15 := (W_7.keep K_8 nin0)
      have ne_d__6_b__12 : d__6 ≠ b__12 := Nat.ne_of_lt (Nat.lt_of_lt_of_le f_15.lt p_12_0)
      have ne_b__6_d__12 : b__6 ≠ d__12 := Nat.ne_of_lt (Nat.lt_of_lt_of_le f_14.lt p_12_5)
      have ne_d__6_d__12 : d__6 ≠ d__12 := Nat.ne_of_lt (Nat.lt_of_lt_of_le f_15.lt p_12_5)
      have KK_12 : Keep h0 h_12 [] := KK_8.trans K_12 all0
      have z_12q : n0 ≤ h_12.size := Nat.le_trans z_8q K_12.1
      have ns_12 : ∀ x ∈ ([] : List Addr), ∀ cell : Cell, h_8[x]? = some cell → cell.vm.isStatics = false := all0
      have HE_12 := HE_8.keep K_12 sf0
      have sz_12_0 : h0.size ≤ b__12 := Nat.le_trans KK_8.1 p_12_0
      have sz_12_5 : h0.size ≤ d__12 := Nat.le_trans KK_8.1 p_12_5
      show GoS p e below s _ _ _ _ _ T_12 (mkF m 108 #[.val (.int na), .val (.int nb), .val (.int (46 : Int32)), .val (.int rr_3), .val (.int (46 : Int32)), .val (.int (1 : Int32)), .val (.int (1 : Int32))] [(.ref b__12)])
      have W_16 := p_12_7
      rw [show ((46 : Int32)).toInt8.toInt32 = (46 : Int32) from by decide] at W_16
      have f_18 := (own_sta_keep f_13 K_12 ns_12)
      have f_19 := (own_sta_keep (own_sta_keep f_10 K_8 ns_8) K_12 ns_12)
      obtain ⟨_, _, ⟨T_17, L_17, kc_17, nc_17⟩, -, X_17, sn_17, gg_17, ⟨Lc_17, hQ_17, l_17, y_17, z_17, CH_17⟩, st_17⟩ := callSS X_12 hx (y := (⟨"com/example/contextwire/contextwire/RequestId", "isValid", "(Ljava/lang/String;)Z"⟩ : MethodName)) hown (mvT hZ (hw _ (List.mem_of_getElem? (i := 32) rfl))) (mvT hZ (hw _ (List.mem_of_getElem? (i := 33) rfl))) (mvT hZ (hw _ (List.mem_of_getElem? (i := 4) rfl))) (mvT hZ (hw _ (List.mem_of_getElem? (i := 34) rfl))) (by decide) (backOfSH (s := s) (vm0 := T_8.vm) (W := 0) (rmVa46 l Z a0 hw [] b__12 cs d__12 kd__12 fm h_12 n0 z_12q f_18 hcs f_19 rf_fm p_12_2 p_12_4 p_12_3 W_16) hZ (hw _ (List.mem_of_getElem? (i := 34) rfl)) (hw _ (List.mem_of_getElem? (i := 4) rfl)) (by decide) (by decide) hEL HE_12.chv) (g := (mkF m 108 #[.val (.int na), .val (.int nb), .val (.int (46 : Int32)), .val (.int rr_3), .val (.int (46 : Int32)), .val (.int (1 : Int32)), .val (.int (1 : Int32))] [(.ref b__12)])) rfl (by rw [hml]; rfl) (argsL := [(.ref b__12)]) (rest := []) (lenOf pd_15 rfl) rfl (by show 2 * 0 + _ ≤ _; exact Nat.le_of_eq rfl) (hb hby at_108) (fun _ _ => ⟨rfl, e_12, (by decide : 6 + 2 ≤ _), (by decide : 46 + 36 ≤ _)⟩)
      dsimp only [Pt.U, Pt.locs, Pt.cells, Pt.slots] at X_17 l_17 y_17 z_17 st_17 hQ_17
      obtain rfl : kc_17 = 8 := y_17
      obtain rfl : nc_17 = 82 := z_17
      dsimp only [Pt.U, Pt.locs, Pt.cells, Pt.slots] at sn_17 gg_17 CH_17
      obtain ⟨X_17, HE_17, hZ, hown⟩ := OwnH.call HE_12 e_12 X_17 sn_17 gg_17 hZ hown CH_17
      obtain ⟨h_17, e_17⟩ : ∃ hh, T_17.heap = hh := ⟨_, rfl⟩
      rw [e_17] at hQ_17 HE_17 CH_17
      obtain ⟨rfl, N_17q, K_17⟩ := hQ_17
      have N_17 : Fr n0 L_17 := by rw [l_17]; exact Fr.app N_12 N_17q
      refine GoS.st (fun _ kk => st_17.trans kk) ?_
      have KK_17 : Keep h0 h_17 [] := KK_12.trans K_17 all0
      have z_17q : n0 ≤ h_17.size := Nat.le_trans z_12q K_17.1
      have ns_17 : ∀ x ∈ ([] : List Addr), ∀ cell : Cell, h_12[x]? = some cell → cell.vm.isStatics = false := all0
      show GoS p e below s _ _ _ _ _ T_17 (mkF m 111 #[.val (.int na), .val (.int nb), .val (.int (46 : Int32)), .val (.int rr_3), .val (.int (46 : Int32)), .val (.int (1 : Int32)), .val (.int (1 : Int32))] [(.int (1 : Int32))])
      exact GoS.retZ hZ hEL HE_17 e_17 X_17 hx hlk Bd.returns (hb hby at_111) rfl (by rw [e_17]; exact ⟨rfl, N_17⟩) (by decide) (by decide)
    · refine GoS.st (fun _ => XS.ifYes X0.here hx rfl (pc0 := 14) (pc' := 22) rfl (hb hby at_14) rfl ((if0 _ _).trans (feq hc_4).2) (by decide) (by decide)) ?_
      show GoS p e below s _ _ _ _ _ s₁ (mkF m 22 #[.val (.int na), .val (.int nb), .val (.int (46 : Int32)), .val (.int rr_3), .unset, .unset, .unset] [])
      refine GoS.st (fun _ => XS.iloadN X0.here hx rfl (hb hby at_22) rfl) ?_
      show GoS p e below s _ _ _ _ _ s₁ (mkF m 23 #[.val (.int na), .val (.int nb), .val (.int (46 : Int32)), .val (.int rr_3), .unset, .unset, .unset] [(.int rr_3)])
      refine GoS.st (fun _ => XS.iconst X0.here hx rfl (hb hby at_23)) ?_
      show GoS p e below s _ _ _ _ _ s₁ (mkF m 24 #[.val (.int na), .val (.int nb), .val (.int (46 : Int32)), .val (.int rr_3), .unset, .unset, .unset] [(.int (1 : Int32)), (.int rr_3)])
      by_cases hc_20 : rr_3 = (1 : Int32)
      · refine GoS.st (fun _ => XS.icmpNo X0.here hx rfl (hb hby at_24) rfl (teq hc_20).2) ?_
        show GoS p e below s _ _ _ _ _ s₁ (mkF m 27 #[.val (.int na), .val (.int nb), .val (.int (46 : Int32)), .val (.int rr_3), .unset, .unset, .unset] [])
        refine GoS.st (fun _ => XS.bipush X0.here hx rfl (hb hby at_27)) ?_
        show GoS p e below s _ _ _ _ _ s₁ (mkF m 29 #[.val (.int na), .val (.int nb), .val (.int (46 : Int32)), .val (.int rr_3), .unset, .unset, .unset] [(.int (95 : Int32))])
        refine GoS.st (fun _ => XS.goto X0.here hx rfl (pc0 := 29) (pc' := 34) rfl (hb hby at_29) (by decide) (by decide)) ?_
        show GoS p e below s _ _ _ _ _ s₁ (mkF m 34 #[.val (.int na), .val (.int nb), .val (.int (46 : Int32)), .val (.int rr_3), .unset, .unset, .unset] [(.int (95 : Int32))])
        refine GoS.st (fun _ => XS.istore X0.here hx rfl (hb hby at_34) rfl (l' := #[.val (.int na), .val (.int nb), .val (.int (46 : Int32)), .val (.int rr_3), .val (.int (95 : Int32)), .unset, .unset]) rfl) ?_
        show GoS p e below s _ _ _ _ _ s₁ (mkF m 36 #[.val (.int na), .val (.int nb), .val (.int (46 : Int32)), .val (.int rr_3), .val (.int (95 : Int32)), .unset, .unset] [])
        refine GoS.st (fun _ => XS.iloadN X0.here hx rfl (hb hby at_36) rfl) ?_
        show GoS p e below s _ _ _ _ _ s₁ (mkF m 37 #[.val (.int na), .val (.int nb), .val (.int (46 : Int32)), .val (.int rr_3), .val (.int (95 : Int32)), .unset, .unset] [(.int (46 : Int32))])
        obtain ⟨_, _, ⟨T_21, L_21, kc_21, nc_21⟩, -, X_21, ⟨Lc_21, hQ_21, l_21, y_21, z_21⟩, st_21⟩ := Jvm.LawKit.callS X0 hx (y := (⟨"com/example/contextwire/contextwire/RequestId", "isNodeEnd", "(C)Z"⟩ : MethodName)) hown (mvT hZ (hw _ (List.mem_of_getElem? (i := 2) rfl))) (mvT hZ (hw _ (List.mem_of_getElem? (i := 3) rfl))) (mvT hZ (hw _ (List.mem_of_getElem? (i := 4) rfl))) (mvT hZ (hw _ (List.mem_of_getElem? (i := 5) rfl))) (by decide) (backOf (W := 0) (rmNe46 l Z a0 hw []  h0 n0 Z0 ) hZ (hw _ (List.mem_of_getElem? (i := 5) rfl)) (hw _ (List.mem_of_getElem? (i := 4) rfl)) (by decide) (by decide)) (g := (mkF m 37 #[.val (.int na), .val (.int nb), .val (.int (46 : Int32)), .val (.int rr_3), .val (.int (95 : Int32)), .unset, .unset] [(.int (46 : Int32))])) rfl (by rw [hml]; rfl) (argsL := [(.int (46 : Int32))]) (rest := []) (lenOf pd_0 rfl) rfl (by show 2 * 0 + _ ≤ _; exact Nat.le_of_eq rfl) (hb hby at_37) (fun _ _ => ⟨rfl, e0, (by decide : 0 + 0 ≤ _), (by decide : 0 + 0 ≤ _)⟩)
        dsimp only [Pt.U, Pt.locs, Pt.cells, Pt.slots] at X_21 l_21 y_21 z_21 st_21 hQ_21
        obtain rfl : kc_21 = 0 := y_21
        obtain rfl : nc_21 = 0 := z_21
        obtain ⟨h_21, e_21⟩ : ∃ hh, T_21.heap = hh := ⟨_, rfl⟩
        rw [e_21] at hQ_21
        obtain ⟨rfl, N_21q, sm_21⟩ := hQ_21
        have N_21 : Fr n0 L_21 := by rw [l_21]; exact Fr.app N0 N_21q
        refine GoS.st st_21 ?_
        rw [sm_21] at e_21
        show GoS p e below s _ _ _ _ _ T_21 (mkF m 40 #[.val (.int na), .val (.int nb), .val (.int (46 : Int32)), .val (.int rr_3), .val (.int (95 : Int32)), .unset, .unset] [(.int (1 : Int32))])
        refine GoS.st (fun _ => XS.istore X_21.here hx rfl (hb hby at_40) rfl (l' := #[.val (.int na), .val (.int nb), .val (.int (46 : Int32)), .val (.int rr_3), .val (.int (95 : Int32)), .val (.int (1 : Int32)), .unset]) rfl) ?_
        show GoS p e below s _ _ _ _ _ T_21 (mkF m 42 #[.val (.int na), .val (.int nb), .val (.int (46 : Int32)), .val (.int rr_3), .val (.int (95 : Int32)), .val (.int (1 : Int32)), .unset] [])
        refine GoS.st (fun _ => XS.iloadN X_21.here hx rfl (hb hby at_42) rfl) ?_
        show GoS p e below s _ _ _ _ _ T_21 (mkF m 43 #[.val (.int na), .val (.int nb), .val (.int (46 : Int32)), .val (.int rr_3), .val (.int (95 : Int32)), .val (.int (1 : Int32)), .unset] [(.int (46 : Int32))])
        refine GoS.st (fun _ => XS.bipush X_21.here hx rfl (hb hby at_43)) ?_
        show GoS p e below s _ _ _ _ _ T_21 (mkF m 45 #[.val (.int na), .val (.int nb), .val (.int (46 : Int32)), .val (.int rr_3), .val (.int (95 : Int32)), .val (.int (1 : Int32)), .unset] [(.int (46 : Int32)), (.int (46 : Int32))])
        refine GoS.st (fun _ => XS.icmpYes X_21.here hx rfl (pc0 := 45) (pc' := 60) rfl (hb hby at_45) rfl (teq (by decide : (46 : Int32) = (46 : Int32))).1 (by decide) (by decide)) ?_
        show GoS p e below s _ _ _ _ _ T_21 (mkF m 60 #[.val (.int na), .val (.int nb), .val (.int (46 : Int32)), .val (.int rr_3), .val (.int (95 : Int32)), .val (.int (1 : Int32)), .unset] [])
        refine GoS.st (fun _ => XS.iconst X_21.here hx rfl (hb hby at_60)) ?_
        show GoS p e below s _ _ _ _ _ T_21 (mkF m 61 #[.val (.int na), .val (.int nb), .val (.int (46 : Int32)), .val (.int rr_3), .val (.int (95 : Int32)), .val (.int (1 : Int32)), .unset] [(.int (1 : Int32))])
        refine GoS.st (fun _ => XS.goto X_21.here hx rfl (pc0 := 61) (pc' := 65) rfl (hb hby at_61) (by decide) (by decide)) ?_
        show GoS p e below s _ _ _ _ _ T_21 (mkF m 65 #[.val (.int na), .val (.int nb), .val (.int (46 : Int32)), .val (.int rr_3), .val (.int (95 : Int32)), .val (.int (1 : Int32)), .unset] [(.int (1 : Int32))])
        refine GoS.st (fun _ => XS.istore X_21.here hx rfl (hb hby at_65) rfl (l' := #[.val (.int na), .val (.int nb), .val (.int (46 : Int32)), .val (.int rr_3), .val (.int (95 : Int32)), .val (.int (1 : Int32)), .val (.int (1 : Int32))]) rfl) ?_
        show GoS p e below s _ _ _ _ _ T_21 (mkF m 67 #[.val (.int na), .val (.int nb), .val (.int (46 : Int32)), .val (.int rr_3), .val (.int (95 : Int32)), .val (.int (1 : Int32)), .val (.int (1 : Int32))] [])
        refine GoS.st (fun _ => XS.iload X_21.here hx rfl (hb hby at_67) rfl) ?_
        show GoS p e below s _ _ _ _ _ T_21 (mkF m 69 #[.val (.int na), .val (.int nb), .val (.int (46 : Int32)), .val (.int rr_3), .val (.int (95 : Int32)), .val (.int (1 : Int32)), .val (.int (1 : Int32))] [(.int (1 : Int32))])
        refine GoS.st (fun _ => XS.iload X_21.here hx rfl (hb hby at_69) rfl) ?_
        show GoS p e below s _ _ _ _ _ T_21 (mkF m 71 #[.val (.int na), .val (.int nb), .val (.int (46 : Int32)), .val (.int rr_3), .val (.int (95 : Int32)), .val (.int (1 : Int32)), .val (.int (1 : Int32))] [(.int (1 : Int32)), (.int (1 : Int32))])
        refine GoS.st (fun _ => XS.icmpYes X_21.here hx rfl (pc0 := 71) (pc' := 76) rfl (hb hby at_71) rfl (teq (by decide : (1 : Int32) = (1 : Int32))).1 (by decide) (by decide)) ?_
        show GoS p e below s _ _ _ _ _ T_21 (mkF m 76 #[.val (.int na), .val (.int nb), .val (.int (46 : Int32)), .val (.int rr_3), .val (.int (95 : Int32)), .val (.int (1 : Int32)), .val (.int (1 : Int32))] [])
        refine GoS.st (fun _ => XS.iload X_21.here hx rfl (hb hby at_76) rfl) ?_
        show GoS p e below s _ _ _ _ _ T_21 (mkF m 78 #[.val (.int na), .val (.int nb), .val (.int (46 : Int32)), .val (.int rr_3), .val (.int (95 : Int32)), .val (.int (1 : Int32)), .val (.int (1 : Int32))] [(.int (1 : Int32))])
        refine GoS.st (fun _ => XS.ifNo X_21.here hx rfl (hb hby at_78) rfl ((if0 _ _).trans (feq (by decide : ¬ ((1 : Int32) = (0 : Int32)))).1)) ?_
        show GoS p e below s _ _ _ _ _ T_21 (mkF m 81 #[.val (.int na), .val (.int nb), .val (.int (46 : Int32)), .val (.int rr_3), .val (.int (95 : Int32)), .val (.int (1 : Int32)), .val (.int (1 : Int32))] [])
        refine GoS.st (fun _ => XS.iloadN X_21.here hx rfl (hb hby at_81) rfl) ?_
        show GoS p e below s _ _ _ _ _ T_21 (mkF m 82 #[.val (.int na), .val (.int nb), .val (.int (46 : Int32)), .val (.int rr_3), .val (.int (95 : Int32)), .val (.int (1 : Int32)), .val (.int (1 : Int32))] [(.int (46 : Int32))])
        obtain ⟨_, _, ⟨T_22, L_22, kc_22, nc_22⟩, -, X_22, ⟨Lc_22, hQ_22, l_22, y_22, z_22⟩, st_22⟩ := Jvm.LawKit.callS X_21 hx (y := (⟨"java/lang/String", "valueOf", "(C)Ljava/lang/String;"⟩ : MethodName)) hown (mvT hZ (hw _ (List.mem_of_getElem? (i := 6) rfl))) (mvT hZ (hw _ (List.mem_of_getElem? (i := 7) rfl))) (mvT hZ (hw _ (List.mem_of_getElem? (i := 8) rfl))) (mvT hZ (hw _ (List.mem_of_getElem? (i := 9) rfl))) (by decide) (backOf (W := 0) (rmVo l Z a0 hw [] (46 : Int32) cs h0 n0 Z0 S_COMPACT_STRINGS hcs (by decide)) hZ (hw _ (List.mem_of_getElem? (i := 9) rfl)) (hw _ (List.mem_of_getElem? (i := 8) rfl)) (by decide) (by decide)) (g := (mkF m 82 #[.val (.int na), .val (.int nb), .val (.int (46 : Int32)), .val (.int rr_3), .val (.int (95 : Int32)), .val (.int (1 : Int32)), .val (.int (1 : Int32))] [(.int (46 : Int32))])) rfl (by rw [hml]; rfl) (argsL := [(.int (46 : Int32))]) (rest := []) (lenOf pd_14 rfl) rfl (by show 2 * 0 + _ ≤ _; exact Nat.le_of_eq rfl) (hb hby at_82) (fun _ _ => ⟨rfl, e_21, (by decide : 0 + 2 ≤ _), (by decide : 0 + 5 ≤ _)⟩)
        dsimp only [Pt.U, Pt.locs, Pt.cells, Pt.slots] at X_22 l_22 y_22 z_22 st_22 hQ_22
        obtain rfl : kc_22 = 2 := y_22
        obtain rfl : nc_22 = 5 := z_22
        obtain ⟨h_22, e_22⟩ : ∃ hh, T_22.heap = hh := ⟨_, rfl⟩
        rw [e_22] at hQ_22
        obtain ⟨b__22, d__22, kd__22, rfl, N_22q, K_22, p_22_0, p_22_1, p_22_2, p_22_3, p_22_4, p_22_5, p_22_6, p_22_7, p_22_8⟩ := hQ_22
        have N_22 : Fr n0 L_22 := by rw [l_22]; exact Fr.app N_21 N_22q
        refine GoS.st st_22 ?_
        have KK_22 : Keep h0 h_22 [] := (Keep.refl h0 []).trans K_22 all0
        have z_22q : n0 ≤ h_22.size := Nat.le_trans Z0 K_22.1
        have ns_22 : ∀ x ∈ ([] : List Addr), ∀ cell : Cell, h0[x]? = some cell → cell.vm.isStatics = false := all0
        have HE_22 := HE0.keep K_22 sf0
        have sz_22_0 : h0.size ≤ b__22 := Nat.le_trans (Keep.refl h0 []).1 p_22_0
        have sz_22_5 : h0.size ≤ d__22 := Nat.le_trans (Keep.refl h0 []).1 p_22_5
        show GoS p e below s _ _ _ _ _ T_22 (mkF m 85 #[.val (.int na), .val (.int nb), .val (.int (46 : Int32)), .val (.int rr_3), .val (.int (95 : Int32)), .val (.int (1 : Int32)), .val (.int (1 : Int32))] [(.ref b__22)])
        have W_23 := p_22_7
        rw [show ((46 : Int32)).toInt8.toInt32 = (46 : Int32) from by decide] at W_23
        have f_25 := (own_sta_keep S_COMPACT_STRINGS K_22 ns_22)
        have f_26 := (own_sta_keep S_SIOOBE_FORMATTER K_22 ns_22)
        obtain ⟨_, _, ⟨T_24, L_24, kc_24, nc_24⟩, -, X_24, sn_24, gg_24, ⟨Lc_24, hQ_24, l_24, y_24, z_24, CH_24⟩, st_24⟩ := callSS X_22 hx (y := (⟨"com/example/contextwire/contextwire/RequestId", "isValid", "(Ljava/lang/String;)Z"⟩ : MethodName)) hown (mvT hZ (hw _ (List.mem_of_getElem? (i := 32) rfl))) (mvT hZ (hw _ (List.mem_of_getElem? (i := 33) rfl))) (mvT hZ (hw _ (List.mem_of_getElem? (i := 4) rfl))) (mvT hZ (hw _ (List.mem_of_getElem? (i := 34) rfl))) (by decide) (backOfSH (s := s) (vm0 := s.vm) (W := 0) (rmVa46 l Z a0 hw [] b__22 cs d__22 kd__22 fm h_22 n0 z_22q f_25 hcs f_26 rf_fm p_22_2 p_22_4 p_22_3 W_23) hZ (hw _ (List.mem_of_getElem? (i := 34) rfl)) (hw _ (List.mem_of_getElem? (i := 4) rfl)) (by decide) (by decide) hEL HE_22.chv) (g := (mkF m 85 #[.val (.int na), .val (.int nb), .val (.int (46 : Int32)), .val (.int rr_3), .val (.int (95 : Int32)), .val (.int (1 : Int32)), .val (.int (1 : Int32))] [(.ref b__22)])) rfl (by rw [hml]; rfl) (argsL := [(.ref b__22)]) (rest := []) (lenOf pd_15 rfl) rfl (by show 2 * 0 + _ ≤ _; exact Nat.le_of_eq rfl) (hb hby at_85) (fun _ _ => ⟨rfl, e_22, (by decide : 2 + 2 ≤ _), (by decide : 5 + 36 ≤ _)⟩)
        dsimp only [Pt.U, Pt.locs, Pt.cells, Pt.slots] at X_24 l_24 y_24 z_24 st_24 hQ_24
        obtain rfl : kc_24 = 4 := y_24
        obtain rfl : nc_24 = 41 := z_24
        dsimp only [Pt.U, Pt.locs, Pt.cells, Pt.slots] at sn_24 gg_24 CH_24
        obtain ⟨X_24, HE_24, hZ, hown⟩ := OwnH.call HE_22 e_22 X_24 sn_24 gg_24 hZ hown CH_24
        obtain ⟨h_24, e_24⟩ : ∃ hh, T_24.heap = hh := ⟨_, rfl⟩
        rw [e_24] at hQ_24 HE_24 CH_24
        obtain ⟨rfl, N_24q, K_24⟩ := hQ_24
        have N_24 : Fr n0 L_24 := by rw [l_24]; exact Fr.app N_22 N_24q
        refine GoS.st (fun _ kk => st_24.trans kk) ?_
        have KK_24 : Keep h0 h_24 [] := KK_22.trans K_24 all0
        have z_24q : n0 ≤ h_24.size := Nat.le_trans z_22q K_24.1
        have ns_24 : ∀ x ∈ ([] : List Addr), ∀ cell : Cell, h_22[x]? = some cell → cell.vm.isStatics = false := all0
        show GoS p e below s _ _ _ _ _ T_24 (mkF m 88 #[.val (.int na), .val (.int nb), .val (.int (46 : Int32)), .val (.int rr_3), .val (.int (95 : Int32)), .val (.int (1 : Int32)), .val (.int (1 : Int32))] [(.int (1 : Int32))])
        refine GoS.st (fun _ => XS.ifYes X_24.here hx rfl (pc0 := 88) (pc' := 93) rfl (hb hby at_88) rfl ((if0 _ _).trans (feq (by decide : ¬ ((1 : Int32) = (0 : Int32)))).2) (by decide) (by decide)) ?_
        show GoS p e below s _ _ _ _ _ T_24 (mkF m 93 #[.val (.int na), .val (.int nb), .val (.int (46 : Int32)), .val (.int rr_3), .val (.int (95 : Int32)), .val (.int (1 : Int32)), .val (.int (1 : Int32))] [])
        refine GoS.st (fun _ => XS.iload X_24.here hx rfl (hb hby at_93) rfl) ?_
        show GoS p e below s _ _ _ _ _ T_24 (mkF m 95 #[.val (.int na), .val (.int nb), .val (.int (46 : Int32)), .val (.int rr_3), .val (.int (95 : Int32)), .val (.int (1 : Int32)), .val (.int (1 : Int32))] [(.int (95 : Int32))])
        obtain ⟨_, _, ⟨T_27, L_27, kc_27, nc_27⟩, -, X_27, ⟨Lc_27, hQ_27, l_27, y_27, z_27⟩, st_27⟩ := Jvm.LawKit.callS X_24 hx (y := (⟨"com/example/contextwire/contextwire/RequestId", "isNodeEnd", "(C)Z"⟩ : MethodName)) hown (mvT hZ (hw _ (List.mem_of_getElem? (i := 2) rfl))) (mvT hZ (hw _ (List.mem_of_getElem? (i := 3) rfl))) (mvT hZ (hw _ (List.mem_of_getElem? (i := 4) rfl))) (mvT hZ (hw _ (List.mem_of_getElem? (i := 5) rfl))) (by decide) (backOf (W := 0) (rmNe95 l Z a0 hw []  h_24 n0 z_24q ) hZ (hw _ (List.mem_of_getElem? (i := 5) rfl)) (hw _ (List.mem_of_getElem? (i := 4) rfl)) (by decide) (by decide)) (g := (mkF m 95 #[.val (.int na), .val (.int nb), .val (.int (46 : Int32)), .val (.int rr_3), .val (.int (95 : Int32)), .val (.int (1 : Int32)), .val (.int (1 : Int32))] [(.int (95 : Int32))])) rfl (by rw [hml]; rfl) (argsL := [(.int (95 : Int32))]) (rest := []) (lenOf pd_0 rfl) rfl (by show 2 * 0 + _ ≤ _; exact Nat.le_of_eq rfl) (hb hby at_95) (fun _ _ => ⟨rfl, e_24, (by decide : 4 + 0 ≤ _), (by decide : 41 + 0 ≤ _)⟩)
        dsimp only [Pt.U, Pt.locs, Pt.cells, Pt.slots] at X_27 l_27 y_27 z_27 st_27 hQ_27
        obtain rfl : kc_27 = 4 := y_27
        obtain rfl : nc_27 = 41 := z_27
        obtain ⟨h_27, e_27⟩ : ∃ hh, T_27.heap = hh := ⟨_, rfl⟩
        rw [e_27] at hQ_27
        obtain ⟨rfl, N_27q, sm_27⟩ := hQ_27
        have N_27 : Fr n0 L_27 := by rw [l_27]; exact Fr.app N_24 N_27q
        refine GoS.st st_27 ?_
        rw [sm_27] at e_27
        show GoS p e below s _ _ _ _ _ T_27 (mkF m 98 #[.val (.int na), .val (.int nb), .val (.int (46 : Int32)), .val (.int rr_3), .val (.int (95 : Int32)), .val (.int (1 : Int32)), .val (.int (1 : Int32))] [(.int (1 : Int32))])
        refine GoS.st (fun _ => XS.ifYes X_27.here hx rfl (pc0 := 98) (pc' := 103) rfl (hb hby at_98) rfl ((if0 _ _).trans (feq (by decide : ¬ ((1 : Int32) = (0 : Int32)))).2) (by decide) (by decide)) ?_
        show GoS p e below s _ _ _ _ _ T_27 (mkF m 103 #[.val (.int na), .val (.int nb), .val (.int (46 : Int32)), .val (.int rr_3), .val (.int (95 : Int32)), .val (.int (1 : Int32)), .val (.int (1 : Int32))] [])
        refine GoS.st (fun _ => XS.iload X_27.here hx rfl (hb hby at_103) rfl) ?_
        show GoS p e below s _ _ _ _ _ T_27 (mkF m 105 #[.val (.int na), .val (.int nb), .val (.int (46 : Int32)), .val (.int rr_3), .val (.int (95 : Int32)), .val (.int (1 : Int32)), .val (.int (1 : Int32))] [(.int (95 : Int32))])
        have f_29 := (own_sta_keep f_25 K_24 ns_24)
        obtain ⟨_, _, ⟨T_28, L_28, kc_28, nc_28⟩, -, X_28, ⟨Lc_28, hQ_28, l_28, y_28, z_28⟩, st_28⟩ := Jvm.LawKit.callS X_27 hx (y := (⟨"java/lang/String", "valueOf", "(C)Ljava/lang/String;"⟩ : MethodName)) hown (mvT hZ (hw _ (List.mem_of_getElem? (i := 6) rfl))) (mvT hZ (hw _ (List.mem_of_getElem? (i := 7) rfl))) (mvT hZ (hw _ (List.mem_of_getElem? (i := 8) rfl))) (mvT hZ (hw _ (List.mem_of_getElem? (i := 9) rfl))) (by decide) (backOf (W := 0) (rmVo l Z a0 hw [] (95 : Int32) cs h_24 n0 z_24q f_29 hcs (by decide)) hZ (hw _ (List.mem_of_getElem? (i := 9) rfl)) (hw _ (List.mem_of_getElem? (i := 8) rfl)) (by decide) (by decide)) (g := (mkF m 105 #[.val (.int na), .val (.int nb), .val (.int (46 : Int32)), .val (.int rr_3), .val (.int (95 : Int32)), .val (.int (1 : Int32)), .val (.int (1 : Int32))] [(.int (95 : Int32))])) rfl (by rw [hml]; rfl) (argsL := [(.int (95 : Int32))]) (rest := []) (lenOf pd_14 rfl) rfl (by show 2 * 0 + _ ≤ _; exact Nat.le_of_eq rfl) (hb hby at_105) (fun _ _ => ⟨rfl, e_27, (by decide : 4 + 2 ≤ _), (by decide : 41 + 5 ≤ _)⟩)
        dsimp only [Pt.U, Pt.locs, Pt.cells, Pt.slots] at X_28 l_28 y_28 z_28 st_28 hQ_28
        obtain rfl : kc_28 = 6 := y_28
        obtain rfl : nc_28 = 46 := z_28
        obtain ⟨h_28, e_28⟩ : ∃ hh, T_28.heap = hh := ⟨_, rfl⟩
        rw [e_28] at hQ_28
        obtain ⟨b__28, d__28, kd__28, rfl, N_28q, K_28, p_28_0, p_28_1, p_28_2, p_28_3, p_28_4, p_28_5, p_28_6, p_28_7, p_28_8⟩ := hQ_28
        have N_28 : Fr n0 L_28 := by rw [l_28]; exact Fr.app N_27 N_28q
        refine GoS.st st_28 ?_
        have f_30 := (p_22_2.keep K_24)
        have ne_b__22_b__28 : b__22 ≠ b__28 := Nat.ne_of_lt (Nat.lt_of_lt_of_le f_30.lt p_28_0)
        have f_31 := (W_23.keep K_24 nin0)
        have ne_d__22_b__28 : d__22 ≠ b__28 := Nat.ne_of_lt (Nat.lt_of_lt_of_le f_31.lt p_28_0)
        have ne_b__22_d__28 : b__22 ≠ d__28 := Nat.ne_of_lt (Nat.lt_of_lt_of_le f_30.lt p_28_5)
        have ne_d__22_d__28 : d__22 ≠ d__28 := Nat.ne_of_lt (Nat.lt_of_lt_of_le f_31.lt p_28_5)
        have KK_28 : Keep h0 h_28 [] := KK_24.trans K_28 all0
        have z_28q : n0 ≤ h_28.size := Nat.le_trans z_24q K_28.1
        have ns_28 : ∀ x ∈ ([] : List Addr), ∀ cell : Cell, h_24[x]? = some cell → cell.vm.isStatics = false := all0
        have HE_28 := HE_24.keep K_28 sf0
        have sz_28_0 : h0.size ≤ b__28 := Nat.le_trans KK_24.1 p_28_0
        have sz_28_5 : h0.size ≤ d__28 := Nat.le_trans KK_24.1 p_28_5
        show GoS p e below s _ _ _ _ _ T_28 (mkF m 108 #[.val (.int na), .val (.int nb), .val (.int (46 : Int32)), .val (.int rr_3), .val (.int (95 : Int32)), .val (.int (1 : Int32)), .val (.int (1 : Int32))] [(.ref b__28)])
        have W_32 := p_28_7
        rw [show ((95 : Int32)).toInt8.toInt32 = (95 : Int32) from by decide] at W_32
        have f_34 := (own_sta_keep f_29 K_28 ns_28)
        have f_35 := (own_sta_keep (own_sta_keep f_26 K_24 ns_24) K_28 ns_28)
        obtain ⟨_, _, ⟨T_33, L_33, kc_33, nc_33⟩, -, X_33, sn_33, gg_33, ⟨Lc_33, hQ_33, l_33, y_33, z_33, CH_33⟩, st_33⟩ := callSS X_28 hx (y := (⟨"com/example/contextwire/contextwire/RequestId", "isValid", "(Ljava/lang/String;)Z"⟩ : MethodName)) hown (mvT hZ (hw _ (List.mem_of_getElem? (i := 32) rfl))) (mvT hZ (hw _ (List.mem_of_getElem? (i := 33) rfl))) (mvT hZ (hw _ (List.mem_of_getElem? (i := 4) rfl))) (mvT hZ (hw _ (List.mem_of_getElem? (i := 34) rfl))) (by decide) (backOfSH (s := s) (vm0 := T_24.vm) (W := 0) (rmVa95 l Z a0 hw [] b__28 cs d__28 kd__28 fm h_28 n0 z_28q f_34 hcs f_35 rf_fm p_28_2 p_28_4 p_28_3 W_32) hZ (hw _ (List.mem_of_getElem? (i := 34) rfl)) (hw _ (List.mem_of_getElem? (i := 4) rfl)) (by decide) (by decide) hEL HE_28.chv) (g := (mkF m 108 #[.val (.int na), .val (.int nb), .val (.int (46 : Int32)), .val (.int rr_3), .val (.int (95 : Int32)), .val (.int (1 : Int32)), .val (.int (1 : Int32))] [(.ref b__28)])) rfl (by rw [hml]; rfl) (argsL := [(.ref b__28)]) (rest := []) (lenOf pd_15 rfl) rfl (by show 2 * 0 + _ ≤ _; exact Nat.le_of_eq rfl) (hb hby at_108) (fun _ _ => ⟨rfl, e_28, (by decide : 6 + 2 ≤ _), (by decide : 46 + 36 ≤ _)⟩)
        dsimp only [Pt.U, Pt.locs, Pt.cells, Pt.slots] at X_33 l_33 y_33 z_33 st_33 hQ_33
        obtain rfl : kc_33 = 8 := y_33
        obtain rfl : nc_33 = 82 := z_33
        dsimp only [Pt.U, Pt.locs, Pt.cells, Pt.slots] at sn_33 gg_33 CH_33
        obtain ⟨X_33, HE_33, hZ, hown⟩ := OwnH.call HE_28 e_28 X_33 sn_33 gg_33 hZ hown CH_33
        obtain ⟨h_33, e_33⟩ : ∃ hh, T_33.heap = hh := ⟨_, rfl⟩
        rw [e_33] at hQ_33 HE_33 CH_33
        obtain ⟨rfl, N_33q, K_33⟩ := hQ_33
        have N_33 : Fr n0 L_33 := by rw [l_33]; exact Fr.app N_28 N_33q
        refine GoS.st (fun _ kk => st_33.trans kk) ?_
        have KK_33 : Keep h0 h_33 [] := KK_28.trans K_33 all0
        have z_33q : n0 ≤ h_33.size := Nat.le_trans z_28q K_33.1
        have ns_33 : ∀ x ∈ ([] : List Addr), ∀ cell : Cell, h_28[x]? = some cell → cell.vm.isStatics = false := all0
        show GoS p e below s _ _ _ _ _ T_33 (mkF m 111 #[.val (.int na), .val (.int nb), .val (.int (46 : Int32)), .val (.int rr_3), .val (.int (95 : Int32)), .val (.int (1 : Int32)), .val (.int (1 : Int32))] [(.int (1 : Int32))])
        exact GoS.retZ hZ hEL HE_33 e_33 X_33 hx hlk Bd.returns (hb hby at_111) rfl (by rw [e_33]; exact ⟨rfl, N_33⟩) (by decide) (by decide)
      · refine GoS.st (fun _ => XS.icmpYes X0.here hx rfl (pc0 := 24) (pc' := 32) rfl (hb hby at_24) rfl (feq hc_20).2 (by decide) (by decide)) ?_
        show GoS p e below s _ _ _ _ _ s₁ (mkF m 32 #[.val (.int na), .val (.int nb), .val (.int (46 : Int32)), .val (.int rr_3), .unset, .unset, .unset] [])
        refine GoS.st (fun _ => XS.bipush X0.here hx rfl (hb hby at_32)) ?_
        show GoS p e below s _ _ _ _ _ s₁ (mkF m 34 #[.val (.int na), .val (.int nb), .val (.int (46 : Int32)), .val (.int rr_3), .unset, .unset, .unset] [(.int (35 : Int32))])
        refine GoS.st (fun _ => XS.istore X0.here hx rfl (hb hby at_34) rfl (l' := #[.val (.int na), .val (.int nb), .val (.int (46 : Int32)), .val (.int rr_3), .val (.int (35 : Int32)), .unset, .unset]) rfl) ?_
        show GoS p e below s _ _ _ _ _ s₁ (mkF m 36 #[.val (.int na), .val (.int nb), .val (.int (46 : Int32)), .val (.int rr_3), .val (.int (35 : Int32)), .unset, .unset] [])
        refine GoS.st (fun _ => XS.iloadN X0.here hx rfl (hb hby at_36) rfl) ?_
        show GoS p e below s _ _ _ _ _ s₁ (mkF m 37 #[.val (.int na), .val (.int nb), .val (.int (46 : Int32)), .val (.int rr_3), .val (.int (35 : Int32)), .unset, .unset] [(.int (46 : Int32))])
        obtain ⟨_, _, ⟨T_36, L_36, kc_36, nc_36⟩, -, X_36, ⟨Lc_36, hQ_36, l_36, y_36, z_36⟩, st_36⟩ := Jvm.LawKit.callS X0 hx (y := (⟨"com/example/contextwire/contextwire/RequestId", "isNodeEnd", "(C)Z"⟩ : MethodName)) hown (mvT hZ (hw _ (List.mem_of_getElem? (i := 2) rfl))) (mvT hZ (hw _ (List.mem_of_getElem? (i := 3) rfl))) (mvT hZ (hw _ (List.mem_of_getElem? (i := 4) rfl))) (mvT hZ (hw _ (List.mem_of_getElem? (i := 5) rfl))) (by decide) (backOf (W := 0) (rmNe46 l Z a0 hw []  h0 n0 Z0 ) hZ (hw _ (List.mem_of_getElem? (i := 5) rfl)) (hw _ (List.mem_of_getElem? (i := 4) rfl)) (by decide) (by decide)) (g := (mkF m 37 #[.val (.int na), .val (.int nb), .val (.int (46 : Int32)), .val (.int rr_3), .val (.int (35 : Int32)), .unset, .unset] [(.int (46 : Int32))])) rfl (by rw [hml]; rfl) (argsL := [(.int (46 : Int32))]) (rest := []) (lenOf pd_0 rfl) rfl (by show 2 * 0 + _ ≤ _; exact Nat.le_of_eq rfl) (hb hby at_37) (fun _ _ => ⟨rfl, e0, (by decide : 0 + 0 ≤ _), (by decide : 0 + 0 ≤ _)⟩)
        dsimp only [Pt.U, Pt.locs, Pt.cells, Pt.slots] at X_36 l_36 y_36 z_36 st_36 hQ_36
        obtain rfl : kc_36 = 0 := y_36
        obtain rfl : nc_36 = 0 := z_36
        obtain ⟨h_36, e_36⟩ : ∃ hh, T_36.heap = hh := ⟨_, rfl⟩
        rw [e_36] at hQ_36
        obtain ⟨rfl, N_36q, sm_36⟩ := hQ_36
        have N_36 : Fr n0 L_36 := by rw [l_36]; exact Fr.app N0 N_36q
        refine GoS.st st_36 ?_
        rw [sm_36] at e_36
        show GoS p e below s _ _ _ _ _ T_36 (mkF m 40 #[.val (.int na), .val (.int nb), .val (.int (46 : Int32)), .val (.int rr_3), .val (.int (35 : Int32)), .unset, .unset] [(.int (1 : Int32))])
        refine GoS.st (fun _ => XS.istore X_36.here hx rfl (hb hby at_40) rfl (l' := #[.val (.int na), .val (.int nb), .val (.int (46 : Int32)), .val (.int rr_3), .val (.int (35 : Int32)), .val (.int (1 : Int32)), .unset]) rfl) ?_
        show GoS p e below s _ _ _ _ _ T_36 (mkF m 42 #[.val (.int na), .val (.int nb), .val (.int (46 : Int32)), .val (.int rr_3), .val (.int (35 : Int32)), .val (.int (1 : Int32)), .unset] [])
        refine GoS.st (fun _ => XS.iloadN X_36.here hx rfl (hb hby at_42) rfl) ?_
        show GoS p e below s _ _ _ _ _ T_36 (mkF m 43 #[.val (.int na), .val (.int nb), .val (.int (46 : Int32)), .val (.int rr_3), .val (.int (35 : Int32)), .val (.int (1 : Int32)), .unset] [(.int (46 : Int32))])
        refine GoS.st (fun _ => XS.bipush X_36.here hx rfl (hb hby at_43)) ?_
        show GoS p e below s _ _ _ _ _ T_36 (mkF m 45 #[.val (.int na), .val (.int nb), .val (.int (46 : Int32)), .val (.int rr_3), .val (.int (35 : Int32)), .val (.int (1 : Int32)), .unset] [(.int (46 : Int32)), (.int (46 : Int32))])
        refine GoS.st (fun _ => XS.icmpYes X_36.here hx rfl (pc0 := 45) (pc' := 60) rfl (hb hby at_45) rfl (teq (by decide : (46 : Int32) = (46 : Int32))).1 (by decide) (by decide)) ?_
        show GoS p e below s _ _ _ _ _ T_36 (mkF m 60 #[.val (.int na), .val (.int nb), .val (.int (46 : Int32)), .val (.int rr_3), .val (.int (35 : Int32)), .val (.int (1 : Int32)), .unset] [])
        refine GoS.st (fun _ => XS.iconst X_36.here hx rfl (hb hby at_60)) ?_
        show GoS p e below s _ _ _ _ _ T_36 (mkF m 61 #[.val (.int na), .val (.int nb), .val (.int (46 : Int32)), .val (.int rr_3), .val (.int (35 : Int32)), .val (.int (1 : Int32)), .unset] [(.int (1 : Int32))])
        refine GoS.st (fun _ => XS.goto X_36.here hx rfl (pc0 := 61) (pc' := 65) rfl (hb hby at_61) (by decide) (by decide)) ?_
        show GoS p e below s _ _ _ _ _ T_36 (mkF m 65 #[.val (.int na), .val (.int nb), .val (.int (46 : Int32)), .val (.int rr_3), .val (.int (35 : Int32)), .val (.int (1 : Int32)), .unset] [(.int (1 : Int32))])
        refine GoS.st (fun _ => XS.istore X_36.here hx rfl (hb hby at_65) rfl (l' := #[.val (.int na), .val (.int nb), .val (.int (46 : Int32)), .val (.int rr_3), .val (.int (35 : Int32)), .val (.int (1 : Int32)), .val (.int (1 : Int32))]) rfl) ?_
        show GoS p e below s _ _ _ _ _ T_36 (mkF m 67 #[.val (.int na), .val (.int nb), .val (.int (46 : Int32)), .val (.int rr_3), .val (.int (35 : Int32)), .val (.int (1 : Int32)), .val (.int (1 : Int32))] [])
        refine GoS.st (fun _ => XS.iload X_36.here hx rfl (hb hby at_67) rfl) ?_
        show GoS p e below s _ _ _ _ _ T_36 (mkF m 69 #[.val (.int na), .val (.int nb), .val (.int (46 : Int32)), .val (.int rr_3), .val (.int (35 : Int32)), .val (.int (1 : Int32)), .val (.int (1 : Int32))] [(.int (1 : Int32))])
        refine GoS.st (fun _ => XS.iload X_36.here hx rfl (hb hby at_69) rfl) ?_
        show GoS p e below s _ _ _ _ _ T_36 (mkF m 71 #[.val (.int na), .val (.int nb), .val (.int (46 : Int32)), .val (.int rr_3), .val (.int (35 : Int32)), .val (.int (1 : Int32)), .val (.int (1 : Int32))] [(.int (1 : Int32)), (.int (1 : Int32))])
        refine GoS.st (fun _ => XS.icmpYes X_36.here hx rfl (pc0 := 71) (pc' := 76) rfl (hb hby at_71) rfl (teq (by decide : (1 : Int32) = (1 : Int32))).1 (by decide) (by decide)) ?_
        show GoS p e below s _ _ _ _ _ T_36 (mkF m 76 #[.val (.int na), .val (.int nb), .val (.int (46 : Int32)), .val (.int rr_3), .val (.int (35 : Int32)), .val (.int (1 : Int32)), .val (.int (1 : Int32))] [])
        refine GoS.st (fun _ => XS.iload X_36.here hx rfl (hb hby at_76) rfl) ?_
        show GoS p e below s _ _ _ _ _ T_36 (mkF m 78 #[.val (.int na), .val (.int nb), .val (.int (46 : Int32)), .val (.int rr_3), .val (.int (35 : Int32)), .val (.int (1 : Int32)), .val (.int (1 : Int32))] [(.int (1 : Int32))])
        refine GoS.st (fun _ => XS.ifNo X_36.here hx rfl (hb hby at_78) rfl ((if0 _ _).trans (feq (by decide : ¬ ((1 : Int32) = (0 : Int32)))).1)) ?_
        show GoS p e below s _ _ _ _ _ T_36 (mkF m 81 #[.val (.int na), .val (.int nb), .val (.int (46 : Int32)), .val (.int rr_3), .val (.int (35 : Int32)), .val (.int (1 : Int32)), .val (.int (1 : Int32))] [])
        refine GoS.st (fun _ => XS.iloadN X_36.here hx rfl (hb hby at_81) rfl) ?_
        show GoS p e below s _ _ _ _ _ T_36 (mkF m 82 #[.val (.int na), .val (.int nb), .val (.int (46 : Int32)), .val (.int rr_3), .val (.int (35 : Int32)), .val (.int (1 : Int32)), .val (.int (1 : Int32))] [(.int (46 : Int32))])
        obtain ⟨_, _, ⟨T_37, L_37, kc_37, nc_37⟩, -, X_37, ⟨Lc_37, hQ_37, l_37, y_37, z_37⟩, st_37⟩ := Jvm.LawKit.callS X_36 hx (y := (⟨"java/lang/String", "valueOf", "(C)Ljava/lang/String;"⟩ : MethodName)) hown (mvT hZ (hw _ (List.mem_of_getElem? (i := 6) rfl))) (mvT hZ (hw _ (List.mem_of_getElem? (i := 7) rfl))) (mvT hZ (hw _ (List.mem_of_getElem? (i := 8) rfl))) (mvT hZ (hw _ (List.mem_of_getElem? (i := 9) rfl))) (by decide) (backOf (W := 0) (rmVo l Z a0 hw [] (46 : Int32) cs h0 n0 Z0 S_COMPACT_STRINGS hcs (by decide)) hZ (hw _ (List.mem_of_getElem? (i := 9) rfl)) (hw _ (List.mem_of_getElem? (i := 8) rfl)) (by decide) (by decide)) (g := (mkF m 82 #[.val (.int na), .val (.int nb), .val (.int (46 : Int32)), .val (.int rr_3), .val (.int (35 : Int32)), .val (.int (1 : Int32)), .val (.int (1 : Int32))] [(.int (46 : Int32))])) rfl (by rw [hml]; rfl) (argsL := [(.int (46 : Int32))]) (rest := []) (lenOf pd_14 rfl) rfl (by show 2 * 0 + _ ≤ _; exact Nat.le_of_eq rfl) (hb hby at_82) (fun _ _ => ⟨rfl, e_36, (by decide : 0 + 2 ≤ _), (by decide : 0 + 5 ≤ _)⟩)
        dsimp only [Pt.U, Pt.locs, Pt.cells, Pt.slots] at X_37 l_37 y_37 z_37 st_37 hQ_37
        obtain rfl : kc_37 = 2 := y_37
        obtain rfl : nc_37 = 5 := z_37
        obtain ⟨h_37, e_37⟩ : ∃ hh, T_37.heap = hh := ⟨_, rfl⟩
        rw [e_37] at hQ_37
        obtain ⟨b__37, d__37, kd__37, rfl, N_37q, K_37, p_37_0, p_37_1, p_37_2, p_37_3, p_37_4, p_37_5, p_37_6, p_37_7, p_37_8⟩ := hQ_37
        have N_37 : Fr n0 L_37 := by rw [l_37]; exact Fr.app N_36 N_37q
        refine GoS.st st_37 ?_
        have KK_37 : Keep h0 h_37 [] := (Keep.refl h0 []).trans K_37 all0
        have z_37q : n0 ≤ h_37.size := Nat.le_trans Z0 K_37.1
        have ns_37 : ∀ x ∈ ([] : List Addr), ∀ cell : Cell, h0[x]? = some cell → cell.vm.isStatics = false := all0
        have HE_37 := HE0.keep K_37 sf0
        have sz_37_0 : h0.size ≤ b__37 := Nat.le_trans (Keep.refl h0 []).1 p_37_0
        have sz_37_5 : h0.size ≤ d__37 := Nat.le_trans (Keep.refl h0 []).1 p_37_5
        show GoS p e below s _ _ _ _ _ T_37 (mkF m 85 #[.val (.int na), .val (.int nb), .val (.int (46 : Int32)), .val (.int rr_3), .val (.int (35 : Int32)), .val (.int (1 : Int32)), .val (.int (1 : Int32))] [(.ref b__37)])
        have W_38 := p_37_7
        rw [show ((46 : Int32)).toInt8.toInt32 = (46 : Int32) from by decide] at W_38
        have f_40 := (own_sta_keep S_COMPACT_STRINGS K_37 ns_37)
        have f_41 := (own_sta_keep S_SIOOBE_FORMATTER K_37 ns_37)
        obtain ⟨_, _, ⟨T_39, L_39, kc_39, nc_39⟩, -, X_39, sn_39, gg_39, ⟨Lc_39, hQ_39, l_39, y_39, z_39, CH_39⟩, st_39⟩ := callSS X_37 hx (y := (⟨"com/example/contextwire/contextwire/RequestId", "isValid", "(Ljava/lang/String;)Z"⟩ : MethodName)) hown (mvT hZ (hw _ (List.mem_of_getElem? (i := 32) rfl))) (mvT hZ (hw _ (List.mem_of_getElem? (i := 33) rfl))) (mvT hZ (hw _ (List.mem_of_getElem? (i := 4) rfl))) (mvT hZ (hw _ (List.mem_of_getElem? (i := 34) rfl))) (by decide) (backOfSH (s := s) (vm0 := s.vm) (W := 0) (rmVa46 l Z a0 hw [] b__37 cs d__37 kd__37 fm h_37 n0 z_37q f_40 hcs f_41 rf_fm p_37_2 p_37_4 p_37_3 W_38) hZ (hw _ (List.mem_of_getElem? (i := 34) rfl)) (hw _ (List.mem_of_getElem? (i := 4) rfl)) (by decide) (by decide) hEL HE_37.chv) (g := (mkF m 85 #[.val (.int na), .val (.int nb), .val (.int (46 : Int32)), .val (.int rr_3), .val (.int (35 : Int32)), .val (.int (1 : Int32)), .val (.int (1 : Int32))] [(.ref b__37)])) rfl (by rw [hml]; rfl) (argsL := [(.ref b__37)]) (rest := []) (lenOf pd_15 rfl) rfl (by show 2 * 0 + _ ≤ _; exact Nat.le_of_eq rfl) (hb hby at_85) (fun _ _ => ⟨rfl, e_37, (by decide : 2 + 2 ≤ _), (by decide : 5 + 36 ≤ _)⟩)
        dsimp only [Pt.U, Pt.locs, Pt.cells, Pt.slots] at X_39 l_39 y_39 z_39 st_39 hQ_39
        obtain rfl : kc_39 = 4 := y_39
        obtain rfl : nc_39 = 41 := z_39
        dsimp only [Pt.U, Pt.locs, Pt.cells, Pt.slots] at sn_39 gg_39 CH_39
        obtain ⟨X_39, HE_39, hZ, hown⟩ := OwnH.call HE_37 e_37 X_39 sn_39 gg_39 hZ hown CH_39
        obtain ⟨h_39, e_39⟩ : ∃ hh, T_39.heap = hh := ⟨_, rfl⟩
        rw [e_39] at hQ_39 HE_39 CH_39
        obtain ⟨rfl, N_39q, K_39⟩ := hQ_39
        have N_39 : Fr n0 L_39 := by rw [l_39]; exact Fr.app N_37 N_39q
        refine GoS.st (fun _ kk => st_39.trans kk) ?_
        have KK_39 : Keep h0 h_39 [] := KK_37.trans K_39 all0
        have z_39q : n0 ≤ h_39.size := Nat.le_trans z_37q K_39.1
        have ns_39 : ∀ x ∈ ([] : List Addr), ∀ cell : Cell, h_37[x]? = some cell → cell.vm.isStatics = false := all0
        show GoS p e below s _ _ _ _ _ T_39 (mkF m 88 #[.val (.int na), .val (.int nb), .val (.int (46 : Int32)), .val (.int rr_3), .val (.int (35 : Int32)), .val (.int (1 : Int32)), .val (.int (1 : Int32))] [(.int (1 : Int32))])
        refine GoS.st (fun _ => XS.ifYes X_39.here hx rfl (pc0 := 88) (pc' := 93) rfl (hb hby at_88) rfl ((if0 _ _).trans (feq (by decide : ¬ ((1 : Int32) = (0 : Int32)))).2) (by decide) (by decide)) ?_
        show GoS p e below s _ _ _ _ _ T_39 (mkF m 93 #[.val (.int na), .val (.int nb), .val (.int (46 : Int32)), .val (.int rr_3), .val (.int (35 : Int32)), .val (.int (1 : Int32)), .val (.int (1 : Int32))] [])
        refine GoS.st (fun _ => XS.iload X_39.here hx rfl (hb hby at_93) rfl) ?_
        show GoS p e below s _ _ _ _ _ T_39 (mkF m 95 #[.val (.int na), .val (.int nb), .val (.int (46 : Int32)), .val (.int rr_3), .val (.int (35 : Int32)), .val (.int (1 : Int32)), .val (.int (1 : Int32))] [(.int (35 : Int32))])
        obtain ⟨_, _, ⟨T_42, L_42, kc_42, nc_42⟩, -, X_42, ⟨Lc_42, hQ_42, l_42, y_42, z_42⟩, st_42⟩ := Jvm.LawKit.callS X_39 hx (y := (⟨"com/example/contextwire/contextwire/RequestId", "isNodeEnd", "(C)Z"⟩ : MethodName)) hown (mvT hZ (hw _ (List.mem_of_getElem? (i := 2) rfl))) (mvT hZ (hw _ (List.mem_of_getElem? (i := 3) rfl))) (mvT hZ (hw _ (List.mem_of_getElem? (i := 4) rfl))) (mvT hZ (hw _ (List.mem_of_getElem? (i := 5) rfl))) (by decide) (backOf (W := 0) (rmNe35 l Z a0 hw []  h_39 n0 z_39q ) hZ (hw _ (List.mem_of_getElem? (i := 5) rfl)) (hw _ (List.mem_of_getElem? (i := 4) rfl)) (by decide) (by decide)) (g := (mkF m 95 #[.val (.int na), .val (.int nb), .val (.int (46 : Int32)), .val (.int rr_3), .val (.int (35 : Int32)), .val (.int (1 : Int32)), .val (.int (1 : Int32))] [(.int (35 : Int32))])) rfl (by rw [hml]; rfl) (argsL := [(.int (35 : Int32))]) (rest := []) (lenOf pd_0 rfl) rfl (by show 2 * 0 + _ ≤ _; exact Nat.le_of_eq rfl) (hb hby at_95) (fun _ _ => ⟨rfl, e_39, (by decide : 4 + 0 ≤ _), (by decide : 41 + 0 ≤ _)⟩)
        dsimp only [Pt.U, Pt.locs, Pt.cells, Pt.slots] at X_42 l_42 y_42 z_42 st_42 hQ_42
        obtain rfl : kc_42 = 4 := y_42
        obtain rfl : nc_42 = 41 := z_42
        obtain ⟨h_42, e_42⟩ : ∃ hh, T_42.heap = hh := ⟨_, rfl⟩
        rw [e_42] at hQ_42
        obtain ⟨rfl, N_42q, sm_42⟩ := hQ_42
        have N_42 : Fr n0 L_42 := by rw [l_42]; exact Fr.app N_39 N_42q
        refine GoS.st st_42 ?_
        rw [sm_42] at e_42
        show GoS p e below s _ _ _ _ _ T_42 (mkF m 98 #[.val (.int na), .val (.int nb), .val (.int (46 : Int32)), .val (.int rr_3), .val (.int (35 : Int32)), .val (.int (1 : Int32)), .val (.int (1 : Int32))] [(.int (1 : Int32))])
        refine GoS.st (fun _ => XS.ifYes X_42.here hx rfl (pc0 := 98) (pc' := 103) rfl (hb hby at_98) rfl ((if0 _ _).trans (feq (by decide : ¬ ((1 : Int32) = (0 : Int32)))).2) (by decide) (by decide)) ?_
        show GoS p e below s _ _ _ _ _ T_42 (mkF m 103 #[.val (.int na), .val (.int nb), .val (.int (46 : Int32)), .val (.int rr_3), .val (.int (35 : Int32)), .val (.int (1 : Int32)), .val (.int (1 : Int32))] [])
        refine GoS.st (fun _ => XS.iload X_42.here hx rfl (hb hby at_103) rfl) ?_
        show GoS p e below s _ _ _ _ _ T_42 (mkF m 105 #[.val (.int na), .val (.int nb), .val (.int (46 : Int32)), .val (.int rr_3), .val (.int (35 : Int32)), .val (.int (1 : Int32)), .val (.int (1 : Int32))] [(.int (35 : Int32))])
        have f_44 := (own_sta_keep f_40 K_39 ns_39)
        obtain ⟨_, _, ⟨T_43, L_43, kc_43, nc_43⟩, -, X_43, ⟨Lc_43, hQ_43, l_43, y_43, z_43⟩, st_43⟩ := Jvm.LawKit.callS X_42 hx (y := (⟨"java/lang/String", "valueOf", "(C)Ljava/lang/String;"⟩ : MethodName)) hown (mvT hZ (hw _ (List.mem_of_getElem? (i := 6) rfl))) (mvT hZ (hw _ (List.mem_of_getElem? (i := 7) rfl))) (mvT hZ (hw _ (List.mem_of_getElem? (i := 8) rfl))) (mvT hZ (hw _ (List.mem_of_getElem? (i := 9) rfl))) (by decide) (backOf (W := 0) (rmVo l Z a0 hw [] (35 : Int32) cs h_39 n0 z_39q f_44 hcs (by decide)) hZ (hw _ (List.mem_of_getElem? (i := 9) rfl)) (hw _ (List.mem_of_getElem? (i := 8) rfl)) (by decide) (by decide)) (g := (mkF m 105 #[.val (.int na), .val (.int nb), .val (.int (46 : Int32)), .val (.int rr_3), .val (.int (35 : Int32)), .val (.int (1 : Int32)), .val (.int (1 : Int32))] [(.int (35 : Int32))])) rfl (by rw [hml]; rfl) (argsL := [(.int (35 : Int32))]) (rest := []) (lenOf pd_14 rfl) rfl (by show 2 * 0 + _ ≤ _; exact Nat.le_of_eq rfl) (hb hby at_105) (fun _ _ => ⟨rfl, e_42, (by decide : 4 + 2 ≤ _), (by decide : 41 + 5 ≤ _)⟩)
        dsimp only [Pt.U, Pt.locs, Pt.cells, Pt.slots] at X_43 l_43 y_43 z_43 st_43 hQ_43
        obtain rfl : kc_43 = 6 := y_43
        obtain rfl : nc_43 = 46 := z_43
        obtain ⟨h_43, e_43⟩ : ∃ hh, T_43.heap = hh := ⟨_, rfl⟩
        rw [e_43] at hQ_43
        obtain ⟨b__43, d__43, kd__43, rfl, N_43q, K_43, p_43_0, p_43_1, p_43_2, p_43_3, p_43_4, p_43_5, p_43_6, p_43_7, p_43_8⟩ := hQ_43
        have N_43 : Fr n0 L_43 := by rw [l_43]; exact Fr.app N_42 N_43q
        refine GoS.st st_43 ?_
        have f_45 := (p_37_2.keep K_39)
        have ne_b__37_b__43 : b__37 ≠ b__43 := Nat.ne_of_lt (Nat.lt_of_lt_of_le f_45.lt p_43_0)
        have f_46 := (W_38.keep K_39 nin0)
        have ne_d__37_b__43 : d__37 ≠ b__43 := Nat.ne_of_lt (Nat.lt_of_lt_of_le f_46.lt p_43_0)
        have ne_b__37_d__43 : b__37 ≠ d__43 := Nat.ne_of_lt (Nat.lt_of_lt_of_le f_45.lt p_43_5)
        have ne_d__37_d__43 : d__37 ≠ d__43 := Nat.ne_of_lt (Nat.lt_of_lt_of_le f_46.lt p_43_5)
        have KK_43 : Keep h0 h_43 [] := KK_39.trans K_43 all0
        have z_43q : n0 ≤ h_43.size := Nat.le_trans z_39q K_43.1
        have ns_43 : ∀ x ∈ ([] : List Addr), ∀ cell : Cell, h_39[x]? = some cell → cell.vm.isStatics = false := all0
        have HE_43 := HE_39.keep K_43 sf0
        have sz_43_0 : h0.size ≤ b__43 := Nat.le_trans KK_39.1 p_43_0
        have sz_43_5 : h0.size ≤ d__43 := Nat.le_trans KK_39.1 p_43_5
        show GoS p e below s _ _ _ _ _ T_43 (mkF m 108 #[.val (.int na), .val (.int nb), .val (.int (46 : Int32)), .val (.int rr_3), .val (.int (35 : Int32)), .val (.int (1 : Int32)), .val (.int (1 : Int32))] [(.ref b__43)])
        have W_47 := p_43_7
        rw [show ((35 : Int32)).toInt8.toInt32 = (35 : Int32) from by decide] at W_47
        have f_49 := (own_sta_keep f_44 K_43 ns_43)
        have f_50 := (own_sta_keep (own_sta_keep f_41 K_39 ns_39) K_43 ns_43)
        obtain ⟨_, _, ⟨T_48, L_48, kc_48, nc_48⟩, -, X_48, sn_48, gg_48, ⟨Lc_48, hQ_48, l_48, y_48, z_48, CH_48⟩, st_48⟩ := callSS X_43 hx (y := (⟨"com/example/contextwire/contextwire/RequestId", "isValid", "(Ljava/lang/String;)Z"⟩ : MethodName)) hown (mvT hZ (hw _ (List.mem_of_getElem? (i := 32) rfl))) (mvT hZ (hw _ (List.mem_of_getElem? (i := 33) rfl))) (mvT hZ (hw _ (List.mem_of_getElem? (i := 4) rfl))) (mvT hZ (hw _ (List.mem_of_getElem? (i := 34) rfl))) (by decide) (backOfSH (s := s) (vm0 := T_39.vm) (W := 0) (rmVa35 l Z a0 hw [] b__43 cs d__43 kd__43 fm h_43 n0 z_43q f_49 hcs f_50 rf_fm p_43_2 p_43_4 p_43_3 W_47) hZ (hw _ (List.mem_of_getElem? (i := 34) rfl)) (hw _ (List.mem_of_getElem? (i := 4) rfl)) (by decide) (by decide) hEL HE_43.chv) (g := (mkF m 108 #[.val (.int na), .val (.int nb), .val (.int (46 : Int32)), .val (.int rr_3), .val (.int (35 : Int32)), .val (.int (1 : Int32)), .val (.int (1 : Int32))] [(.ref b__43)])) rfl (by rw [hml]; rfl) (argsL := [(.ref b__43)]) (rest := []) (lenOf pd_15 rfl) rfl (by show 2 * 0 + _ ≤ _; exact Nat.le_of_eq rfl) (hb hby at_108) (fun _ _ => ⟨rfl, e_43, (by decide : 6 + 2 ≤ _), (by decide : 46 + 36 ≤ _)⟩)
        dsimp only [Pt.U, Pt.locs, Pt.cells, Pt.slots] at X_48 l_48 y_48 z_48 st_48 hQ_48
        obtain rfl : kc_48 = 8 := y_48
        obtain rfl : nc_48 = 82 := z_48
        dsimp only [Pt.U, Pt.locs, Pt.cells, Pt.slots] at sn_48 gg_48 CH_48
        obtain ⟨X_48, HE_48, hZ, hown⟩ := OwnH.call HE_43 e_43 X_48 sn_48 gg_48 hZ hown CH_48
        obtain ⟨h_48, e_48⟩ : ∃ hh, T_48.heap = hh := ⟨_, rfl⟩
        rw [e_48] at hQ_48 HE_48 CH_48
        obtain ⟨rfl, N_48q, K_48⟩ := hQ_48
        have N_48 : Fr n0 L_48 := by rw [l_48]; exact Fr.app N_43 N_48q
        refine GoS.st (fun _ kk => st_48.trans kk) ?_
        have KK_48 : Keep h0 h_48 [] := KK_43.trans K_48 all0
        have z_48q : n0 ≤ h_48.size := Nat.le_trans z_43q K_48.1
        have ns_48 : ∀ x ∈ ([] : List Addr), ∀ cell : Cell, h_43[x]? = some cell → cell.vm.isStatics = false := all0
        show GoS p e below s _ _ _ _ _ T_48 (mkF m 111 #[.val (.int na), .val (.int nb), .val (.int (46 : Int32)), .val (.int rr_3), .val (.int (35 : Int32)), .val (.int (1 : Int32)), .val (.int (1 : Int32))] [(.int (1 : Int32))])
        exact GoS.retZ hZ hEL HE_48 e_48 X_48 hx hlk Bd.returns (hb hby at_111) rfl (by rw [e_48]; exact ⟨rfl, N_48⟩) (by decide) (by decide)
  · by_cases hc_51 : ch_1 = (95 : Int32)
    · rw [hc_51]
      show GoS p e below s _ _ _ _ _ s₁ (mkF m 5 #[.val (.int na), .val (.int nb), .unset, .unset, .unset, .unset, .unset] [(.int (95 : Int32))])
      refine GoS.st (fun _ => XS.istoreN X0.here hx rfl (hb hby at_5) rfl (l' := #[.val (.int na), .val (.int nb), .val (.int (95 : Int32)), .unset, .unset, .unset, .unset]) rfl) ?_
      show GoS p e below s _ _ _ _ _ s₁ (mkF m 6 #[.val (.int na), .val (.int nb), .val (.int (95 : Int32)), .unset, .unset, .unset, .unset] [])
      refine GoS.st (fun _ => XS.iloadN X0.here hx rfl (hb hby at_6) rfl) ?_
      show GoS p e below s _ _ _ _ _ s₁ (mkF m 7 #[.val (.int na), .val (.int nb), .val (.int (95 : Int32)), .unset, .unset, .unset, .unset] [(.int nb)])
      refine GoS.st (fun tG => X0.ldcInt hx hown (mvT hZ (hw _ (List.mem_of_getElem? (i := 1) rfl))) (g := (mkF m 7 #[.val (.int na), .val (.int nb), .val (.int (95 : Int32)), .unset, .unset, .unset, .unset] [(.int nb)])) rfl (hb hby at_7) tG) ?_
      show GoS p e below s _ _ _ _ _ s₁ (mkF m 9 #[.val (.int na), .val (.int nb), .val (.int (95 : Int32)), .unset, .unset, .unset, .unset] [(.int (2147483647 : Int32)), (.int nb)])
      refine GoS.st (fun _ => XS.iand X0.here hx rfl (hb hby at_9) rfl) ?_
      show GoS p e below s _ _ _ _ _ s₁ (mkF m 10 #[.val (.int na), .val (.int nb), .val (.int (95 : Int32)), .unset, .unset, .unset, .unset] [(.int (nb &&& (2147483647 : Int32)))])
      refine GoS.st (fun _ => XS.iconst X0.here hx rfl (hb hby at_10)) ?_
      show GoS p e below s _ _ _ _ _ s₁ (mkF m 11 #[.val (.int na), .val (.int nb), .val (.int (95 : Int32)), .unset, .unset, .unset, .unset] [(.int (3 : Int32)), (.int (nb &&& (2147483647 : Int32)))])
      refine GoS.st (fun _ => iremM X0 hx rfl (hb hby at_11) rfl (by decide)) ?_
      show GoS p e below s _ _ _ _ _ s₁ (mkF m 12 #[.val (.int na), .val (.int nb), .val (.int (95 : Int32)), .unset, .unset, .unset, .unset] [(.int ((nb &&& (2147483647 : Int32)) % (3 : Int32)))])
      refine GoS.st (fun _ => XS.istoreN X0.here hx rfl (hb hby at_12) rfl (l' := #[.val (.int na), .val (.int nb), .val (.int (95 : Int32)), .val (.int ((nb &&& (2147483647 : Int32)) % (3 : Int32))), .unset, .unset, .unset]) rfl) ?_
      show GoS p e below s _ _ _ _ _ s₁ (mkF m 13 #[.val (.int na), .val (.int nb), .val (.int (95 : Int32)), .val (.int ((nb &&& (2147483647 : Int32)) % (3 : Int32))), .unset, .unset, .unset] [])
      obtain ⟨rr_52, hrr_52⟩ : ∃ z, z = ((nb &&& (2147483647 : Int32)) % (3 : Int32)) := ⟨_, rfl⟩
      rw [← hrr_52]
      show GoS p e below s _ _ _ _ _ s₁ (mkF m 13 #[.val (.int na), .val (.int nb), .val (.int (95 : Int32)), .val (.int rr_52), .unset, .unset, .unset] [])
      refine GoS.st (fun _ => XS.iloadN X0.here hx rfl (hb hby at_13) rfl) ?_
      show GoS p e below s _ _ _ _ _ s₁ (mkF m 14 #[.val (.int na), .val (.int nb), .val (.int (95 : Int32)), .val (.int rr_52), .unset, .unset, .unset] [(.int rr_52)])
      by_cases hc_53 : rr_52 = (0 : Int32)
      · refine GoS.st (fun _ => XS.ifNo X0.here hx rfl (hb hby at_14) rfl ((if0 _ _).trans (teq hc_53).2)) ?_
        show GoS p e below s _ _ _ _ _ s₁ (mkF m 17 #[.val (.int na), .val (.int nb), .val (.int (95 : Int32)), .val (.int rr_52), .unset, .unset, .unset] [])
        refine GoS.st (fun _ => XS.bipush X0.here hx rfl (hb hby at_17)) ?_
        show GoS p e below s _ _ _ _ _ s₁ (mkF m 19 #[.val (.int na), .val (.int nb), .val (.int (95 : Int32)), .val (.int rr_52), .unset, .unset, .unset] [(.int (46 : Int32))])
        refine GoS.st (fun _ => XS.goto X0.here hx rfl (pc0 := 19) (pc' := 34) rfl (hb hby at_19) (by decide) (by decide)) ?_
        show GoS p e below s _ _ _ _ _ s₁ (mkF m 34 #[.val (.int na), .val (.int nb), .val (.int (95 : Int32)), .val (.int rr_52), .unset, .unset, .unset] [(.int (46 : Int32))])
        refine GoS.st (fun _ => XS.istore X0.here hx rfl (hb hby at_34) rfl (l' := #[.val (.int na), .val (.int nb), .val (.int (95 : Int32)), .val (.int rr_52), .val (.int (46 : Int32)), .unset, .unset]) rfl) ?_
        show GoS p e below s _ _ _ _ _ s₁ (mkF m 36 #[.val (.int na), .val (.int nb), .val (.int (95 : Int32)), .val (.int rr_52), .val (.int (46 : Int32)), .unset, .unset] [])
        refine GoS.st (fun _ => XS.iloadN X0.here hx rfl (hb hby at_36) rfl) ?_
        show GoS p e below s _ _ _ _ _ s₁ (mkF m 37 #[.val (.int na), .val (.int nb), .val (.int (95 : Int32)), .val (.int rr_52), .val (.int (46 : Int32)), .unset, .unset] [(.int (95 : Int32))])
        obtain ⟨_, _, ⟨T_54, L_54, kc_54, nc_54⟩, -, X_54, ⟨Lc_54, hQ_54, l_54, y_54, z_54⟩, st_54⟩ := Jvm.LawKit.callS X0 hx (y := (⟨"com/example/contextwire/contextwire/RequestId", "isNodeEnd", "(C)Z"⟩ : MethodName)) hown (mvT hZ (hw _ (List.mem_of_getElem? (i := 2) rfl))) (mvT hZ (hw _ (List.mem_of_getElem? (i := 3) rfl))) (mvT hZ (hw _ (List.mem_of_getElem? (i := 4) rfl))) (mvT hZ (hw _ (List.mem_of_getElem? (i := 5) rfl))) (by decide) (backOf (W := 0) (rmNe95 l Z a0 hw []  h0 n0 Z0 ) hZ (hw _ (List.mem_of_getElem? (i := 5) rfl)) (hw _ (List.mem_of_getElem? (i := 4) rfl)) (by decide) (by decide)) (g := (mkF m 37 #[.val (.int na), .val (.int nb), .val (.int (95 : Int32)), .val (.int rr_52), .val (.int (46 : Int32)), .unset, .unset] [(.int (95 : Int32))])) rfl (by rw [hml]; rfl) (argsL := [(.int (95 : Int32))]) (rest := []) (lenOf pd_0 rfl) rfl (by show 2 * 0 + _ ≤ _; exact Nat.le_of_eq rfl) (hb hby at_37) (fun _ _ => ⟨rfl, e0, (by decide : 0 + 0 ≤ _), (by decide : 0 + 0 ≤ _)⟩)
        dsimp only [Pt.U, Pt.locs, Pt.cells, Pt.slots] at X_54 l_54 y_54 z_54 st_54 hQ_54
        obtain rfl : kc_54 = 0 := y_54
        obtain rfl : nc_54 = 0 := z_54
        obtain ⟨h_54, e_54⟩ : ∃ hh, T_54.heap = hh := ⟨_, rfl⟩
        rw [e_54] at hQ_54
        obtain ⟨rfl, N_54q, sm_54⟩ := hQ_54
        have N_54 : Fr n0 L_54 := by rw [l_54]; exact Fr.app N0 N_54q
        refine GoS.st st_54 ?_
        rw [sm_54] at e_54
        show GoS p e below s _ _ _ _ _ T_54 (mkF m 40 #[.val (.int na), .val (.int nb), .val (.int (95 : Int32)), .val (.int rr_52), .val (.int (46 : Int32)), .unset, .unset] [(.int (1 : Int32))])
        refine GoS.st (fun _ => XS.istore X_54.here hx rfl (hb hby at_40) rfl (l' := #[.val (.int na), .val (.int nb), .val (.int (95 : Int32)), .val (.int rr_52), .val (.int (46 : Int32)), .val (.int (1 : Int32)), .unset]) rfl) ?_
        show GoS p e below s _ _ _ _ _ T_54 (mkF m 42 #[.val (.int na), .val (.int nb), .val (.int (95 : Int32)), .val (.int rr_52), .val (.int (46 : Int32)), .val (.int (1 : Int32)), .unset] [])
        refine GoS.st (fun _ => XS.iloadN X_54.here hx rfl (hb hby at_42) rfl) ?_
        show GoS p e below s _ _ _ _ _ T_54 (mkF m 43 #[.val (.int na), .val (.int nb), .val (.int (95 : Int32)), .val (.int rr_52), .val (.int (46 : Int32)), .val (.int (1 : Int32)), .unset] [(.int (95 : Int32))])
        refine GoS.st (fun _ => XS.bipush X_54.here hx rfl (hb hby at_43)) ?_
        show GoS p e below s _ _ _ _ _ T_54 (mkF m 45 #[.val (.int na), .val (.int nb), .val (.int (95 : Int32)), .val (.int rr_52), .val (.int (46 : Int32)), .val (.int (1 : Int32)), .unset] [(.int (46 : Int32)), (.int (95 : Int32))])
        refine GoS.st (fun _ => XS.icmpNo X_54.here hx rfl (hb hby at_45) rfl (feq (by decide : ¬ ((95 : Int32) = (46 : Int32)))).1) ?_
        show GoS p e below s _ _ _ _ _ T_54 (mkF m 48 #[.val (.int na), .val (.int nb), .val (.int (95 : Int32)), .val (.int rr_52), .val (.int (46 : Int32)), .val (.int (1 : Int32)), .unset] [])
        refine GoS.st (fun _ => XS.iloadN X_54.here hx rfl (hb hby at_48) rfl) ?_
        show GoS p e below s _ _ _ _ _ T_54 (mkF m 49 #[.val (.int na), .val (.int nb), .val (.int (95 : Int32)), .val (.int rr_52), .val (.int (46 : Int32)), .val (.int (1 : Int32)), .unset] [(.int (95 : Int32))])
        refine GoS.st (fun _ => XS.bipush X_54.here hx rfl (hb hby at_49)) ?_
        show GoS p e below s _ _ _ _ _ T_54 (mkF m 51 #[.val (.int na), .val (.int nb), .val (.int (95 : Int32)), .val (.int rr_52), .val (.int (46 : Int32)), .val (.int (1 : Int32)), .unset] [(.int (95 : Int32)), (.int (95 : Int32))])
        refine GoS.st (fun _ => XS.icmpYes X_54.here hx rfl (pc0 := 51) (pc' := 60) rfl (hb hby at_51) rfl (teq (by decide : (95 : Int32) = (95 : Int32))).1 (by decide) (by decide)) ?_
        show GoS p e below s _ _ _ _ _ T_54 (mkF m 60 #[.val (.int na), .val (.int nb), .val (.int (95 : Int32)), .val (.int rr_52), .val (.int (46 : Int32)), .val (.int (1 : Int32)), .unset] [])
        refine GoS.st (fun _ => XS.iconst X_54.here hx rfl (hb hby at_60)) ?_
        show GoS p e below s _ _ _ _ _ T_54 (mkF m 61 #[.val (.int na), .val (.int nb), .val (.int (95 : Int32)), .val (.int rr_52), .val (.int (46 : Int32)), .val (.int (1 : Int32)), .unset] [(.int (1 : Int32))])
        refine GoS.st (fun _ => XS.goto X_54.here hx rfl (pc0 := 61) (pc' := 65) rfl (hb hby at_61) (by decide) (by decide)) ?_
        show GoS p e below s _ _ _ _ _ T_54 (mkF m 65 #[.val (.int na), .val (.int nb), .val (.int (95 : Int32)), .val (.int rr_52), .val (.int (46 : Int32)), .val (.int (1 : Int32)), .unset] [(.int (1 : Int32))])
        refine GoS.st (fun _ => XS.istore X_54.here hx rfl (hb hby at_65) rfl (l' := #[.val (.int na), .val (.int nb), .val (.int (95 : Int32)), .val (.int rr_52), .val (.int (46 : Int32)), .val (.int (1 : Int32)), .val (.int (1 : Int32))]) rfl) ?_
        show GoS p e below s _ _ _ _ _ T_54 (mkF m 67 #[.val (.int na), .val (.int nb), .val (.int (95 : Int32)), .val (.int rr_52), .val (.int (46 : Int32)), .val (.int (1 : Int32)), .val (.int (1 : Int32))] [])
        refine GoS.st (fun _ => XS.iload X_54.here hx rfl (hb hby at_67) rfl) ?_
        show GoS p e below s _ _ _ _ _ T_54 (mkF m 69 #[.val (.int na), .val (.int nb), .val (.int (95 : Int32)), .val (.int rr_52), .val (.int (46 : Int32)), .val (.int (1 : Int32)), .val (.int (1 : Int32))] [(.int (1 : Int32))])
        refine GoS.st (fun _ => XS.iload X_54.here hx rfl (hb hby at_69) rfl) ?_
        show GoS p e below s _ _ _ _ _ T_54 (mkF m 71 #[.val (.int na), .val (.int nb), .val (.int (95 : Int32)), .val (.int rr_52), .val (.int (46 : Int32)), .val (.int (1 : Int32)), .val (.int (1 : Int32))] [(.int (1 : Int32)), (.int (1 : Int32))])
        refine GoS.st (fun _ => XS.icmpYes X_54.here hx rfl (pc0 := 71) (pc' := 76) rfl (hb hby at_71) rfl (teq (by decide : (1 : Int32) = (1 : Int32))).1 (by decide) (by decide)) ?_
        show GoS p e below s _ _ _ _ _ T_54 (mkF m 76 #[.val (.int na), .val (.int nb), .val (.int (95 : Int32)), .val (.int rr_52), .val (.int (46 : Int32)), .val (.int (1 : Int32)), .val (.int (1 : Int32))] [])
        refine GoS.st (fun _ => XS.iload X_54.here hx rfl (hb hby at_76) rfl) ?_
        show GoS p e below s _ _ _ _ _ T_54 (mkF m 78 #[.val (.int na), .val (.int nb), .val (.int (95 : Int32)), .val (.int rr_52), .val (.int (46 : Int32)), .val (.int (1 : Int32)), .val (.int (1 : Int32))] [(.int (1 : Int32))])
        refine GoS.st (fun _ => XS.ifNo X_54.here hx rfl (hb hby at_78) rfl ((if0 _ _).trans (feq (by decide : ¬ ((1 : Int32) = (0 : Int32)))).1)) ?_
        show GoS p e below s _ _ _ _ _ T_54 (mkF m 81 #[.val (.int na), .val (.int nb), .val (.int (95 : Int32)), .val (.int rr_52), .val (.int (46 : Int32)), .val (.int (1 : Int32)), .val (.int (1 : Int32))] [])
        refine GoS.st (fun _ => XS.iloadN X_54.here hx rfl (hb hby at_81) rfl) ?_
        show GoS p e below s _ _ _ _ _ T_54 (mkF m 82 #[.val (.int na), .val (.int nb), .val (.int (95 : Int32)), .val (.int rr_52), .val (.int (46 : Int32)), .val (.int (1 : Int32)), .val (.int (1 : Int32))] [(.int (95 : Int32))])
        obtain ⟨_, _, ⟨T_55, L_55, kc_55, nc_55⟩, -, X_55, ⟨Lc_55, hQ_55, l_55, y_55, z_55⟩, st_55⟩ := Jvm.LawKit.callS X_54 hx (y := (⟨"java/lang/String", "valueOf", "(C)Ljava/lang/String;"⟩ : MethodName)) hown (mvT hZ (hw _ (List.mem_of_getElem? (i := 6) rfl))) (mvT hZ (hw _ (List.mem_of_getElem? (i := 7) rfl))) (mvT hZ (hw _ (List.mem_of_getElem? (i := 8) rfl))) (mvT hZ (hw _ (List.mem_of_getElem? (i := 9) rfl))) (by decide) (backOf (W := 0) (rmVo l Z a0 hw [] (95 : Int32) cs h0 n0 Z0 S_COMPACT_STRINGS hcs (by decide)) hZ (hw _ (List.mem_of_getElem? (i := 9) rfl)) (hw _ (List.mem_of_getElem? (i := 8) rfl)) (by decide) (by decide)) (g := (mkF m 82 #[.val (.int na), .val (.int nb), .val (.int (95 : Int32)), .val (.int rr_52), .val (.int (46 : Int32)), .val (.int (1 : Int32)), .val (.int (1 : Int32))] [(.int (95 : Int32))])) rfl (by rw [hml]; rfl) (argsL := [(.int (95 : Int32))]) (rest := []) (lenOf pd_14 rfl) rfl (by show 2 * 0 + _ ≤ _; exact Nat.le_of_eq rfl) (hb hby at_82) (fun _ _ => ⟨rfl, e_54, (by decide : 0 + 2 ≤ _), (by decide : 0 + 5 ≤ _)⟩)
        dsimp only [Pt.U, Pt.locs, Pt.cells, Pt.slots] at X_55 l_55 y_55 z_55 st_55 hQ_55
        obtain rfl : kc_55 = 2 := y_55
        obtain rfl : nc_55 = 5 := z_55
        obtain ⟨h_55, e_55⟩ : ∃ hh, T_55.heap = hh := ⟨_, rfl⟩
        rw [e_55] at hQ_55
        obtain ⟨b__55, d__55, kd__55, rfl, N_55q, K_55, p_55_0, p_55_1, p_55_2, p_55_3, p_55_4, p_55_5, p_55_6, p_55_7, p_55_8⟩ := hQ_55
        have N_55 : Fr n0 L_55 := by rw [l_55]; exact Fr.app N_54 N_55q
        refine GoS.st st_55 ?_
        have KK_55 : Keep h0 h_55 [] := (Keep.refl h0 []).trans K_55 all0
        have z_55q : n0 ≤ h_55.size := Nat.le_trans Z0 K_55.1
        have ns_55 : ∀ x ∈ ([] : List Addr), ∀ cell : Cell, h0[x]? = some cell → cell.vm.isStatics = false := all0
        have HE_55 := HE0.keep K_55 sf0
        have sz_55_0 : h0.size ≤ b__55 := Nat.le_trans (Keep.refl h0 []).1 p_55_0
        have sz_55_5 : h0.size ≤ d__55 := Nat.le_trans (Keep.refl h0 []).1 p_55_5
        show GoS p e below s _ _ _ _ _ T_55 (mkF m 85 #[.val (.int na), .val (.int nb), .val (.int (95 : Int32)), .val (.int rr_52), .val (.int (46 : Int32)), .val (.int (1 : Int32)), .val (.int (1 : Int32))] [(.ref b__55)])
        have W_56 := p_55_7
        rw [show ((95 : Int32)).toInt8.toInt32 = (95 : Int32) from by decide] at W_56
        have f_58 := (own_sta_keep S_COMPACT_STRINGS K_55 ns_55)
        have f_59 := (own_sta_keep S_SIOOBE_FORMATTER K_55 ns_55)
        obtain ⟨_, _, ⟨T_57, L_57, kc_57, nc_57⟩, -, X_57, sn_57, gg_57, ⟨Lc_57, hQ_57, l_57, y_57, z_57, CH_57⟩, st_57⟩ := callSS X_55 hx (y := (⟨"com/example/contextwire/contextwire/RequestId", "isValid", "(Ljava/lang/String;)Z"⟩ : MethodName)) hown (mvT hZ (hw _ (List.mem_of_getElem? (i := 32) rfl))) (mvT hZ (hw _ (List.mem_of_getElem? (i := 33) rfl))) (mvT hZ (hw _ (List.mem_of_getElem? (i := 4) rfl))) (mvT hZ (hw _ (List.mem_of_getElem? (i := 34) rfl))) (by decide) (backOfSH (s := s) (vm0 := s.vm) (W := 0) (rmVa95 l Z a0 hw [] b__55 cs d__55 kd__55 fm h_55 n0 z_55q f_58 hcs f_59 rf_fm p_55_2 p_55_4 p_55_3 W_56) hZ (hw _ (List.mem_of_getElem? (i := 34) rfl)) (hw _ (List.mem_of_getElem? (i := 4) rfl)) (by decide) (by decide) hEL HE_55.chv) (g := (mkF m 85 #[.val (.int na), .val (.int nb), .val (.int (95 : Int32)), .val (.int rr_52), .val (.int (46 : Int32)), .val (.int (1 : Int32)), .val (.int (1 : Int32))] [(.ref b__55)])) rfl (by rw [hml]; rfl) (argsL := [(.ref b__55)]) (rest := []) (lenOf pd_15 rfl) rfl (by show 2 * 0 + _ ≤ _; exact Nat.le_of_eq rfl) (hb hby at_85) (fun _ _ => ⟨rfl, e_55, (by decide : 2 + 2 ≤ _), (by decide : 5 + 36 ≤ _)⟩)
        dsimp only [Pt.U, Pt.locs, Pt.cells, Pt.slots] at X_57 l_57 y_57 z_57 st_57 hQ_57
        obtain rfl : kc_57 = 4 := y_57
        obtain rfl : nc_57 = 41 := z_57
        dsimp only [Pt.U, Pt.locs, Pt.cells, Pt.slots] at sn_57 gg_57 CH_57
        obtain ⟨X_57, HE_57, hZ, hown⟩ := OwnH.call HE_55 e_55 X_57 sn_57 gg_57 hZ hown CH_57
        obtain ⟨h_57, e_57⟩ : ∃ hh, T_57.heap = hh := ⟨_, rfl⟩
        rw [e_57] at hQ_57 HE_57 CH_57
        obtain ⟨rfl, N_57q, K_57⟩ := hQ_57
        have N_57 : Fr n0 L_57 := by rw [l_57]; exact Fr.app N_55 N_57q
        refine GoS.st (fun _ kk => st_57.trans kk) ?_
        have KK_57 : Keep h0 h_57 [] := KK_55.trans K_57 all0
        have z_57q : n0 ≤ h_57.size := Nat.le_trans z_55q K_57.1
        have ns_57 : ∀ x ∈ ([] : List Addr), ∀ cell : Cell, h_55[x]? = some cell → cell.vm.isStatics = false := all0
        show GoS p e below s _ _ _ _ _ T_57 (mkF m 88 #[.val (.int na), .val (.int nb), .val (.int (95 : Int32)), .val (.int rr_52), .val (.int (46 : Int32)), .val (.int (1 : Int32)), .val (.int (1 : Int32))] [(.int (1 : Int32))])
        refine GoS.st (fun _ => XS.ifYes X_57.here hx rfl (pc0 := 88) (pc' := 93) rfl (hb hby at_88) rfl ((if0 _ _).trans (feq (by decide : ¬ ((1 : Int32) = (0 : Int32)))).2) (by decide) (by decide)) ?_
        show GoS p e below s _ _ _ _ _ T_57 (mkF m 93 #[.val (.int na), .val (.int nb), .val (.int (95 : Int32)), .val (.int rr_52), .val (.int (46 : Int32)), .val (.int (1 : Int32)), .val (.int (1 : Int32))] [])
        refine GoS.st (fun _ => XS.iload X_57.here hx rfl (hb hby at_93) rfl) ?_
        show GoS p e below s _ _ _ _ _ T_57 (mkF m 95 #[.val (.int na), .val (.int nb), .val (.int (95 : Int32)), .val (.int rr_52), .val (.int (46 : Int32)), .val (.int (1 : Int32)), .val (.int (1 : Int32))] [(.int (46 : Int32))])
        obtain ⟨_, _, ⟨T_60, L_60, kc_60, nc_60⟩, -, X_60, ⟨Lc_60, hQ_60, l_60, y_60, z_60⟩, st_60⟩ := Jvm.LawKit.callS X_57 hx (y := (⟨"com/example/contextwire/contextwire/RequestId", "isNodeEnd", "(C)Z"⟩ : MethodName)) hown (mvT hZ (hw _ (List.mem_of_getElem? (i := 2) rfl))) (mvT hZ (hw _ (List.mem_of_getElem? (i := 3) rfl))) (mvT hZ (hw _ (List.mem_of_getElem? (i := 4) rfl))) (mvT hZ (hw _ (List.mem_of_getElem? (i := 5) rfl))) (by decide) (backOf (W := 0) (rmNe46 l Z a0 hw []  h_57 n0 z_57q ) hZ (hw _ (List.mem_of_getElem? (i := 5) rfl)) (hw _ (List.mem_of_getElem? (i := 4) rfl)) (by decide) (by decide)) (g := (mkF m 95 #[.val (.int na), .val (.int nb), .val (.int (95 : Int32)), .val (.int rr_52), .val (.int (46 : Int32)), .val (.int (1 : Int32)), .val (.int (1 : Int32))] [(.int (46 : Int32))])) rfl (by rw [hml]; rfl) (argsL := [(.int (46 : Int32))]) (rest := []) (lenOf pd_0 rfl) rfl (by show 2 * 0 + _ ≤ _; exact Nat.le_of_eq rfl) (hb hby at_95) (fun _ _ => ⟨rfl, e_57, (by decide : 4 + 0 ≤ _), (by decide : 41 + 0 ≤ _)⟩)
        dsimp only [Pt.U, Pt.locs, Pt.cells, Pt.slots] at X_60 l_60 y_60 z_60 st_60 hQ_60
        obtain rfl : kc_60 = 4 := y_60
        obtain rfl : nc_60 = 41 := z_60
        obtain ⟨h_60, e_60⟩ : ∃ hh, T_60.heap = hh := ⟨_, rfl⟩
        rw [e_60] at hQ_60
        obtain ⟨rfl, N_60q, sm_60⟩ := hQ_60
        have N_60 : Fr n0 L_60 := by rw [l_60]; exact Fr.app N_57 N_60q
        refine GoS.st st_60 ?_
        rw [sm_60] at e_60
        show GoS p e below s _ _ _ _ _ T_60 (mkF m 98 #[.val (.int na), .val (.int nb), .val (.int (95 : Int32)), .val (.int rr_52), .val (.int (46 : Int32)), .val (.int (1 : Int32)), .val (.int (1 : Int32))] [(.int (1 : Int32))])
        refine GoS.st (fun _ => XS.ifYes X_60.here hx rfl (pc0 := 98) (pc' := 103) rfl (hb hby at_98) rfl ((if0 _ _).trans (feq (by decide : ¬ ((1 : Int32) = (0 : Int32)))).2) (by decide) (by decide)) ?_
        show GoS p e below s _ _ _ _ _ T_60 (mkF m 103 #[.val (.int na), .val (.int nb), .val (.int (95 : Int32)), .val (.int rr_52), .val (.int (46 : Int32)), .val (.int (1 : Int32)), .val (.int (1 : Int32))] [])
        refine GoS.st (fun _ => XS.iload X_60.here hx rfl (hb hby at_103) rfl) ?_
        show GoS p e below s _ _ _ _ _ T_60 (mkF m 105 #[.val (.int na), .val (.int nb), .val (.int (95 : Int32)), .val (.int rr_52), .val (.int (46 : Int32)), .val (.int (1 : Int32)), .val (.int (1 : Int32))] [(.int (46 : Int32))])
        have f_62 := (own_sta_keep f_58 K_57 ns_57)
        obtain ⟨_, _, ⟨T_61, L_61, kc_61, nc_61⟩, -, X_61, ⟨Lc_61, hQ_61, l_61, y_61, z_61⟩, st_61⟩ := Jvm.LawKit.callS X_60 hx (y := (⟨"java/lang/String", "valueOf", "(C)Ljava/lang/String;"⟩ : MethodName)) hown (mvT hZ (hw _ (List.mem_of_getElem? (i := 6) rfl))) (mvT hZ (hw _ (List.mem_of_getElem? (i := 7) rfl))) (mvT hZ (hw _ (List.mem_of_getElem? (i := 8) rfl))) (mvT hZ (hw _ (List.mem_of_getElem? (i := 9) rfl))) (by decide) (backOf (W := 0) (rmVo l Z a0 hw [] (46 : Int32) cs h_57 n0 z_57q f_62 hcs (by decide)) hZ (hw _ (List.mem_of_getElem? (i := 9) rfl)) (hw _ (List.mem_of_getElem? (i := 8) rfl)) (by decide) (by decide)) (g := (mkF m 105 #[.val (.int na), .val (.int nb), .val (.int (95 : Int32)), .val (.int rr_52), .val (.int (46 : Int32)), .val (.int (1 : Int32)), .val (.int (1 : Int32))] [(.int (46 : Int32))])) rfl (by rw [hml]; rfl) (argsL := [(.int (46 : Int32))]) (rest := []) (lenOf pd_14 rfl) rfl (by show 2 * 0 + _ ≤ _; exact Nat.le_of_eq rfl) (hb hby at_105) (fun _ _ => ⟨rfl, e_60, (by decide : 4 + 2 ≤ _), (by decide : 41 + 5 ≤ _)⟩)
        dsimp only [Pt.U, Pt.locs, Pt.cells, Pt.slots] at X_61 l_61 y_61 z_61 st_61 hQ_61
        obtain rfl : kc_61 = 6 := y_61
        obtain rfl : nc_61 = 46 := z_61
        obtain ⟨h_61, e_61⟩ : ∃ hh, T_61.heap = hh := ⟨_, rfl⟩
        rw [e_61] at hQ_61
        obtain ⟨b__61, d__61, kd__61, rfl, N_61q, K_61, p_61_0, p_61_1, p_61_2, p_61_3, p_61_4, p_61_5, p_61_6, p_61_7, p_61_8⟩ := hQ_61
        have N_61 : Fr n0 L_61 := by rw [l_61]; exact Fr.app N_60 N_61q
        refine GoS.st st_61 ?_
        have f_63 := (p_55_2.keep K_57)
        have ne_b__55_b__61 : b__55 ≠ b__61 := Nat.ne_of_lt (Nat.lt_of_lt_of_le f_63.lt p_61_0)
        have f_64 := (W_56.keep K_57 nin0)
        have ne_d__55_b__61 : d__55 ≠ b__61 := Nat.ne_of_lt (Nat.lt_of_lt_of_le f_64.lt p_61_0)
        have ne_b__55_d__61 : b__55 ≠ d__61 := Nat.ne_of_lt (Nat.lt_of_lt_of_le f_63.lt p_61_5)
        have ne_d__55_d__61 : d__55 ≠ d__61 := Nat.ne_of_lt (Nat.lt_of_lt_of_le f_64.lt p_61_5)
        have KK_61 : Keep h0 h_61 [] := KK_57.trans K_61 all0
        have z_61q : n0 ≤ h_61.size := Nat.le_trans z_57q K_61.1
        have ns_61 : ∀ x ∈ ([] : List Addr), ∀ cell : Cell, h_57[x]? = some cell → cell.vm.isStatics = false := all0
        have HE_61 := HE_57.keep K_61 sf0
        have sz_61_0 : h0.size ≤ b__61 := Nat.le_trans KK_57.1 p_61_0
        have sz_61_5 : h0.size ≤ d__61 := Nat.le_trans KK_57.1 p_61_5
        show GoS p e below s _ _ _ _ _ T_61 (mkF m 108 #[.val (.int na), .val (.int nb), .val (.int (95 : Int32)), .val (.int rr_52), .val (.int (46 : Int32)), .val (.int (1 : Int32)), .val (.int (1 : Int32))] [(.ref b__61)])
        have W_65 := p_61_7
        rw [show ((46 : Int32)).toInt8.toInt32 = (46 : Int32) from by decide] at W_65
        have f_67 := (own_sta_keep f_62 K_61 ns_61)
        have f_68 := (own_sta_keep (own_sta_keep f_59 K_57 ns_57) K_61 ns_61)
        obtain ⟨_, _, ⟨T_66, L_66, kc_66, nc_66⟩, -, X_66, sn_66, gg_66, ⟨Lc_66, hQ_66, l_66, y_66, z_66, CH_66⟩, st_66⟩ := callSS X_61 hx (y := (⟨"com/example/contextwire/contextwire/RequestId", "isValid", "(Ljava/lang/String;)Z"⟩ : MethodName)) hown (mvT hZ (hw _ (List.mem_of_getElem? (i := 32) rfl))) (mvT hZ (hw _ (List.mem_of_getElem? (i := 33) rfl))) (mvT hZ (hw _ (List.mem_of_getElem? (i := 4) rfl))) (mvT hZ (hw _ (List.mem_of_getElem? (i := 34) rfl))) (by decide) (backOfSH (s := s) (vm0 := T_57.vm) (W := 0) (rmVa46 l Z a0 hw [] b__61 cs d__61 kd__61 fm h_61 n0 z_61q f_67 hcs f_68 rf_fm p_61_2 p_61_4 p_61_3 W_65) hZ (hw _ (List.mem_of_getElem? (i := 34) rfl)) (hw _ (List.mem_of_getElem? (i := 4) rfl)) (by decide) (by decide) hEL HE_61.chv) (g := (mkF m 108 #[.val (.int na), .val (.int nb), .val (.int (95 : Int32)), .val (.int rr_52), .val (.int (46 : Int32)), .val (.int (1 : Int32)), .val (.int (1 : Int32))] [(.ref b__61)])) rfl (by rw [hml]; rfl) (argsL := [(.ref b__61)]) (rest := []) (lenOf pd_15 rfl) rfl (by show 2 * 0 + _ ≤ _; exact Nat.le_of_eq rfl) (hb hby at_108) (fun _ _ => ⟨rfl, e_61, (by decide : 6 + 2 ≤ _), (by decide : 46 + 36 ≤ _)⟩)
        dsimp only [Pt.U, Pt.locs, Pt.cells, Pt.slots] at X_66 l_66 y_66 z_66 st_66 hQ_66
        obtain rfl : kc_66 = 8 := y_66
        obtain rfl : nc_66 = 82 := z_66
        dsimp only [Pt.U, Pt.locs, Pt.cells, Pt.slots] at sn_66 gg_66 CH_66
        obtain ⟨X_66, HE_66, hZ, hown⟩ := OwnH.call HE_61 e_61 X_66 sn_66 gg_66 hZ hown CH_66
        obtain ⟨h_66, e_66⟩ : ∃ hh, T_66.heap = hh := ⟨_, rfl⟩
        rw [e_66] at hQ_66 HE_66 CH_66
        obtain ⟨rfl, N_66q, K_66⟩ := hQ_66
        have N_66 : Fr n0 L_66 := by rw [l_66]; exact Fr.app N_61 N_66q
        refine GoS.st (fun _ kk => st_66.trans kk) ?_
        have KK_66 : Keep h0 h_66 [] := KK_61.trans K_66 all0
        have z_66q : n0 ≤ h_66.size := Nat.le_trans z_61q K_66.1
        have ns_66 : ∀ x ∈ ([] : List Addr), ∀ cell : Cell, h_61[x]? = some cell → cell.vm.isStatics = false := all0
        show GoS p e below s _ _ _ _ _ T_66 (mkF m 111 #[.val (.int na), .val (.int nb), .val (.int (95 : Int32)), .val (.int rr_52), .val (.int (46 : Int32)), .val (.int (1 : Int32)), .val (.int (1 : Int32))] [(.int (1 : Int32))])
        exact GoS.retZ hZ hEL HE_66 e_66 X_66 hx hlk Bd.returns (hb hby at_111) rfl (by rw [e_66]; exact ⟨rfl, N_66⟩) (by decide) (by decide)
      · refine GoS.st (fun _ => XS.ifYes X0.here hx rfl (pc0 := 14) (pc' := 22) rfl (hb hby at_14) rfl ((if0 _ _).trans (feq hc_53).2) (by decide) (by decide)) ?_
        show GoS p e below s _ _ _ _ _ s₁ (mkF m 22 #[.val (.int na), .val (.int nb), .val (.int (95 : Int32)), .val (.int rr_52), .unset, .unset, .unset] [])
        refine GoS.st (fun _ => XS.iloadN X0.here hx rfl (hb hby at_22) rfl) ?_
        show GoS p e below s _ _ _ _ _ s₁ (mkF m 23 #[.val (.int na), .val (.int nb), .val (.int (95 : Int32)), .val (.int rr_52), .unset, .unset, .unset] [(.int rr_52)])
        refine GoS.st (fun _ => XS.iconst X0.here hx rfl (hb hby at_23)) ?_
        show GoS p e below s _ _ _ _ _ s₁ (mkF m 24 #[.val (.int na), .val (.int nb), .val (.int (95 : Int32)), .val (.int rr_52), .unset, .unset, .unset] [(.int (1 : Int32)), (.int rr_52)])
        by_cases hc_69 : rr_52 = (1 : Int32)
        · refine GoS.st (fun _ => XS.icmpNo X0.here hx rfl (hb hby at_24) rfl (teq hc_69).2) ?_
          show GoS p e below s _ _ _ _ _ s₁ (mkF m 27 #[.val (.int na), .val (.int nb), .val (.int (95 : Int32)), .val (.int rr_52), .unset, .unset, .unset] [])
          refine GoS.st (fun _ => XS.bipush X0.here hx rfl (hb hby at_27)) ?_
          show GoS p e below s _ _ _ _ _ s₁ (mkF m 29 #[.val (.int na), .val (.int nb), .val (.int (95 : Int32)), .val (.int rr_52), .unset, .unset, .unset] [(.int (95 : Int32))])
          refine GoS.st (fun _ => XS.goto X0.here hx rfl (pc0 := 29) (pc' := 34) rfl (hb hby at_29) (by decide) (by decide)) ?_
          show GoS p e below s _ _ _ _ _ s₁ (mkF m 34 #[.val (.int na), .val (.int nb), .val (.int (95 : Int32)), .val (.int rr_52), .unset, .unset, .unset] [(.int (95 : Int32))])
          refine GoS.st (fun _ => XS.istore X0.here hx rfl (hb hby at_34) rfl (l' := #[.val (.int na), .val (.int nb), .val (.int (95 : Int32)), .val (.int rr_52), .val (.int (95 : Int32)), .unset, .unset]) rfl) ?_
          show GoS p e below s _ _ _ _ _ s₁ (mkF m 36 #[.val (.int na), .val (.int nb), .val (.int (95 : Int32)), .val (.int rr_52), .val (.int (95 : Int32)), .unset, .unset] [])
          refine GoS.st (fun _ => XS.iloadN X0.here hx rfl (hb hby at_36) rfl) ?_
          show GoS p e below s _ _ _ _ _ s₁ (mkF m 37 #[.val (.int na), .val (.int nb), .val (.int (95 : Int32)), .val (.int rr_52), .val (.int (95 : Int32)), .unset, .unset] [(.int (95 : Int32))])
          obtain ⟨_, _, ⟨T_70, L_70, kc_70, nc_70⟩, -, X_70, ⟨Lc_70, hQ_70, l_70, y_70, z_70⟩, st_70⟩ := Jvm.LawKit.callS X0 hx (y := (⟨"com/example/contextwire/contextwire/RequestId", "isNodeEnd", "(C)Z"⟩ : MethodName)) hown (mvT hZ (hw _ (List.mem_of_getElem? (i := 2) rfl))) (mvT hZ (hw _ (List.mem_of_getElem? (i := 3) rfl))) (mvT hZ (hw _ (List.mem_of_getElem? (i := 4) rfl))) (mvT hZ (hw _ (List.mem_of_getElem? (i := 5) rfl))) (by decide) (backOf (W := 0) (rmNe95 l Z a0 hw []  h0 n0 Z0 ) hZ (hw _ (List.mem_of_getElem? (i := 5) rfl)) (hw _ (List.mem_of_getElem? (i := 4) rfl)) (by decide) (by decide)) (g := (mkF m 37 #[.val (.int na), .val (.int nb), .val (.int (95 : Int32)), .val (.int rr_52), .val (.int (95 : Int32)), .unset, .unset] [(.int (95 : Int32))])) rfl (by rw [hml]; rfl) (argsL := [(.int (95 : Int32))]) (rest := []) (lenOf pd_0 rfl) rfl (by show 2 * 0 + _ ≤ _; exact Nat.le_of_eq rfl) (hb hby at_37) (fun _ _ => ⟨rfl, e0, (by decide : 0 + 0 ≤ _), (by decide : 0 + 0 ≤ _)⟩)
          dsimp only [Pt.U, Pt.locs, Pt.cells, Pt.slots] at X_70 l_70 y_70 z_70 st_70 hQ_70
          obtain rfl : kc_70 = 0 := y_70
          obtain rfl : nc_70 = 0 := z_70
          obtain ⟨h_70, e_70⟩ : ∃ hh, T_70.heap = hh := ⟨_, rfl⟩
          rw [e_70] at hQ_70
          obtain ⟨rfl, N_70q, sm_70⟩ := hQ_70
          have N_70 : Fr n0 L_70 := by rw [l_70]; exact Fr.app N0 N_70q
          refine GoS.st st_70 ?_
          rw [sm_70] at e_70
          show GoS p e below s _ _ _ _ _ T_70 (mkF m 40 #[.val (.int na), .val (.int nb), .val (.int (95 : Int32)), .val (.int rr_52), .val (.int (95 : Int32)), .unset, .unset] [(.int (1 : Int32))])
          refine GoS.st (fun _ => XS.istore X_70.here hx rfl (hb hby at_40) rfl (l' := #[.val (.int na), .val (.int nb), .val (.int (95 : Int32)), .val (.int rr_52), .val (.int (95 : Int32)), .val (.int (1 : Int32)), .unset]) rfl) ?_
          show GoS p e below s _ _ _ _ _ T_70 (mkF m 42 #[.val (.int na), .val (.int nb), .val (.int (95 : Int32)), .val (.int rr_52), .val (.int (95 : Int32)), .val (.int (1 : Int32)), .unset] [])
          refine GoS.st (fun _ => XS.iloadN X_70.here hx rfl (hb hby at_42) rfl) ?_
          show GoS p e below s _ _ _ _ _ T_70 (mkF m 43 #[.val (.int na), .val (.int nb), .val (.int (95 : Int32)), .val (.int rr_52), .val (.int (95 : Int32)), .val (.int (1 : Int32)), .unset] [(.int (95 : Int32))])
          refine GoS.st (fun _ => XS.bipush X_70.here hx rfl (hb hby at_43)) ?_
          show GoS p e below s _ _ _ _ _ T_70 (mkF m 45 #[.val (.int na), .val (.int nb), .val (.int (95 : Int32)), .val (.int rr_52), .val (.int (95 : Int32)), .val (.int (1 : Int32)), .unset] [(.int (46 : Int32)), (.int (95 : Int32))])
          refine GoS.st (fun _ => XS.icmpNo X_70.here hx rfl (hb hby at_45) rfl (feq (by decide : ¬ ((95 : Int32) = (46 : Int32)))).1) ?_
          show GoS p e below s _ _ _ _ _ T_70 (mkF m 48 #[.val (.int na), .val (.int nb), .val (.int (95 : Int32)), .val (.int rr_52), .val (.int (95 : Int32)), .val (.int (1 : Int32)), .unset] [])
          refine GoS.st (fun _ => XS.iloadN X_70.here hx rfl (hb hby at_48) rfl) ?_
          show GoS p e below s _ _ _ _ _ T_70 (mkF m 49 #[.val (.int na), .val (.int nb), .val (.int (95 : Int32)), .val (.int rr_52), .val (.int (95 : Int32)), .val (.int (1 : Int32)), .unset] [(.int (95 : Int32))])
          refine GoS.st (fun _ => XS.bipush X_70.here hx rfl (hb hby at_49)) ?_
          show GoS p e below s _ _ _ _ _ T_70 (mkF m 51 #[.val (.int na), .val (.int nb), .val (.int (95 : Int32)), .val (.int rr_52), .val (.int (95 : Int32)), .val (.int (1 : Int32)), .unset] [(.int (95 : Int32)), (.int (95 : Int32))])
          refine GoS.st (fun _ => XS.icmpYes X_70.here hx rfl (pc0 := 51) (pc' := 60) rfl (hb hby at_51) rfl (teq (by decide : (95 : Int32) = (95 : Int32))).1 (by decide) (by decide)) ?_
          show GoS p e below s _ _ _ _ _ T_70 (mkF m 60 #[.val (.int na), .val (.int nb), .val (.int (95 : Int32)), .val (.int rr_52), .val (.int (95 : Int32)), .val (.int (1 : Int32)), .unset] [])
          refine GoS.st (fun _ => XS.iconst X_70.here hx rfl (hb hby at_60)) ?_
          show GoS p e below s _ _ _ _ _ T_70 (mkF m 61 #[.val (.int na), .val (.int nb), .val (.int (95 : Int32)), .val (.int rr_52), .val (.int (95 : Int32)), .val (.int (1 : Int32)), .unset] [(.int (1 : Int32))])
          refine GoS.st (fun _ => XS.goto X_70.here hx rfl (pc0 := 61) (pc' := 65) rfl (hb hby at_61) (by decide) (by decide)) ?_
          show GoS p e below s _ _ _ _ _ T_70 (mkF m 65 #[.val (.int na), .val (.int nb), .val (.int (95 : Int32)), .val (.int rr_52), .val (.int (95 : Int32)), .val (.int (1 : Int32)), .unset] [(.int (1 : Int32))])
          refine GoS.st (fun _ => XS.istore X_70.here hx rfl (hb hby at_65) rfl (l' := #[.val (.int na), .val (.int nb), .val (.int (95 : Int32)), .val (.int rr_52), .val (.int (95 : Int32)), .val (.int (1 : Int32)), .val (.int (1 : Int32))]) rfl) ?_
          show GoS p e below s _ _ _ _ _ T_70 (mkF m 67 #[.val (.int na), .val (.int nb), .val (.int (95 : Int32)), .val (.int rr_52), .val (.int (95 : Int32)), .val (.int (1 : Int32)), .val (.int (1 : Int32))] [])
          refine GoS.st (fun _ => XS.iload X_70.here hx rfl (hb hby at_67) rfl) ?_
          show GoS p e below s _ _ _ _ _ T_70 (mkF m 69 #[.val (.int na), .val (.int nb), .val (.int (95 : Int32)), .val (.int rr_52), .val (.int (95 : Int32)), .val (.int (1 : Int32)), .val (.int (1 : Int32))] [(.int (1 : Int32))])
          refine GoS.st (fun _ => XS.iload X_70.here hx rfl (hb hby at_69) rfl) ?_
          show GoS p e below s _ _ _ _ _ T_70 (mkF m 71 #[.val (.int na), .val (.int nb), .val (.int (95 : Int32)), .val (.int rr_52), .val (.int (95 : Int32)), .val (.int (1 : Int32)), .val (.int (1 : Int32))] [(.int (1 : Int32)), (.int (1 : Int32))])
          refine GoS.st (fun _ => XS.icmpYes X_70.here hx rfl (pc0 := 71) (pc' := 76) rfl (hb hby at_71) rfl (teq (by decide : (1 : Int32) = (1 : Int32))).1 (by decide) (by decide)) ?_
          show GoS p e below s _ _ _ _ _ T_70 (mkF m 76 #[.val (.int na), .val (.int nb), .val (.int (95 : Int32)), .val (.int rr_52), .val (.int (95 : Int32)), .val (.int (1 : Int32)), .val (.int (1 : Int32))] [])
          refine GoS.st (fun _ => XS.iload X_70.here hx rfl (hb hby at_76) rfl) ?_
          show GoS p e below s _ _ _ _ _ T_70 (mkF m 78 #[.val (.int na), .val (.int nb), .val (.int (95 : Int32)), .val (.int rr_52), .val (.int (95 : Int32)), .val (.int (1 : Int32)), .val (.int (1 : Int32))] [(.int (1 : Int32))])
          refine GoS.st (fun _ => XS.ifNo X_70.here hx rfl (hb hby at_78) rfl ((if0 _ _).trans (feq (by decide : ¬ ((1 : Int32) = (0 : Int32)))).1)) ?_
          show GoS p e below s _ _ _ _ _ T_70 (mkF m 81 #[.val (.int na), .val (.int nb), .val (.int (95 : Int32)), .val (.int rr_52), .val (.int (95 : Int32)), .val (.int (1 : Int32)), .val (.int (1 : Int32))] [])
          refine GoS.st (fun _ => XS.iloadN X_70.here hx rfl (hb hby at_81) rfl) ?_
          show GoS p e below s _ _ _ _ _ T_70 (mkF m 82 #[.val (.int na), .val (.int nb), .val (.int (95 : Int32)), .val (.int rr_52), .val (.int (95 : Int32)), .val (.int (1 : Int32)), .val (.int (1 : Int32))] [(.int (95 : Int32))])
          obtain ⟨_, _, ⟨T_71, L_71, kc_71, nc_71⟩, -, X_71, ⟨Lc_71, hQ_71, l_71, y_71, z_71⟩, st_71⟩ := Jvm.LawKit.callS X_70 hx (y := (⟨"java/lang/String", "valueOf", "(C)Ljava/lang/String;"⟩ : MethodName)) hown (mvT hZ (hw _ (List.mem_of_getElem? (i := 6) rfl))) (mvT hZ (hw _ (List.mem_of_getElem? (i := 7) rfl))) (mvT hZ (hw _ (List.mem_of_getElem? (i := 8) rfl))) (mvT hZ (hw _ (List.mem_of_getElem? (i := 9) rfl))) (by decide) (backOf (W := 0) (rmVo l Z a0 hw [] (95 : Int32) cs h0 n0 Z0 S_COMPACT_STRINGS hcs (by decide)) hZ (hw _ (List.mem_of_getElem? (i := 9) rfl)) (hw _ (List.mem_of_getElem? (i := 8) rfl)) (by decide) (by decide)) (g := (mkF m 82 #[.val (.int na), .val (.int nb), .val (.int (95 : Int32)), .val (.int rr_52), .val (.int (95 : Int32)), .val (.int (1 : Int32)), .val (.int (1 : Int32))] [(.int (95 : Int32))])) rfl (by rw [hml]; rfl) (argsL := [(.int (95 : Int32))]) (rest := []) (lenOf pd_14 rfl) rfl (by show 2 * 0 + _ ≤ _; exact Nat.le_of_eq rfl) (hb hby at_82) (fun _ _ => ⟨rfl, e_70, (by decide : 0 + 2 ≤ _), (by decide : 0 + 5 ≤ _)⟩)
          dsimp only [Pt.U, Pt.locs, Pt.cells, Pt.slots] at X_71 l_71 y_71 z_71 st_71 hQ_71
          obtain rfl : kc_71 = 2 := y_71
          obtain rfl : nc_71 = 5 := z_71
          obtain ⟨h_71, e_71⟩ : ∃ hh, T_71.heap = hh := ⟨_, rfl⟩
          rw [e_71] at hQ_71
          obtain ⟨b__71, d__71, kd__71, rfl, N_71q, K_71, p_71_0, p_71_1, p_71_2, p_71_3, p_71_4, p_71_5, p_71_6, p_71_7, p_71_8⟩ := hQ_71
          have N_71 : Fr n0 L_71 := by rw [l_71]; exact Fr.app N_70 N_71q
          refine GoS.st st_71 ?_
          have KK_71 : Keep h0 h_71 [] := (Keep.refl h0 []).trans K_71 all0
          have z_71q : n0 ≤ h_71.size := Nat.le_trans Z0 K_71.1
          have ns_71 : ∀ x ∈ ([] : List Addr), ∀ cell : Cell, h0[x]? = some cell → cell.vm.isStatics = false := all0
          have HE_71 := HE0.keep K_71 sf0
          have sz_71_0 : h0.size ≤ b__71 := Nat.le_trans (Keep.refl h0 []).1 p_71_0
          have sz_71_5 : h0.size ≤ d__71 := Nat.le_trans (Keep.refl h0 []).1 p_71_5
          show GoS p e below s _ _ _ _ _ T_71 (mkF m 85 #[.val (.int na), .val (.int nb), .val (.int (95 : Int32)), .val (.int rr_52), .val (.int (95 : Int32)), .val (.int (1 : Int32)), .val (.int (1 : Int32))] [(.ref b__71)])
          have W_72 := p_71_7
          rw [show ((95 : Int32)).toInt8.toInt32 = (95 : Int32) from by decide] at W_72
          have f_74 := (own_sta_keep S_COMPACT_STRINGS K_71 ns_71)
          have f_75 := (own_sta_keep S_SIOOBE_FORMATTER K_71 ns_71)
          obtain ⟨_, _, ⟨T_73, L_73, kc_73, nc_73⟩, -, X_73, sn_73, gg_73, ⟨Lc_73, hQ_73, l_73, y_73, z_73, CH_73⟩, st_73⟩ := callSS X_71 hx (y := (⟨"com/example/contextwire/contextwire/RequestId", "isValid", "(Ljava/lang/String;)Z"⟩ : MethodName)) hown (mvT hZ (hw _ (List.mem_of_getElem? (i := 32) rfl))) (mvT hZ (hw _ (List.mem_of_getElem? (i := 33) rfl))) (mvT hZ (hw _ (List.mem_of_getElem? (i := 4) rfl))) (mvT hZ (hw _ (List.mem_of_getElem? (i := 34) rfl))) (by decide) (backOfSH (s := s) (vm0 := s.vm) (W := 0) (rmVa95 l Z a0 hw [] b__71 cs d__71 kd__71 fm h_71 n0 z_71q f_74 hcs f_75 rf_fm p_71_2 p_71_4 p_71_3 W_72) hZ (hw _ (List.mem_of_getElem? (i := 34) rfl)) (hw _ (List.mem_of_getElem? (i := 4) rfl)) (by decide) (by decide) hEL HE_71.chv) (g := (mkF m 85 #[.val (.int na), .val (.int nb), .val (.int (95 : Int32)), .val (.int rr_52), .val (.int (95 : Int32)), .val (.int (1 : Int32)), .val (.int (1 : Int32))] [(.ref b__71)])) rfl (by rw [hml]; rfl) (argsL := [(.ref b__71)]) (rest := []) (lenOf pd_15 rfl) rfl (by show 2 * 0 + _ ≤ _; exact Nat.le_of_eq rfl) (hb hby at_85) (fun _ _ => ⟨rfl, e_71, (by decide : 2 + 2 ≤ _), (by decide : 5 + 36 ≤ _)⟩)
          dsimp only [Pt.U, Pt.locs, Pt.cells, Pt.slots] at X_73 l_73 y_73 z_73 st_73 hQ_73
          obtain rfl : kc_73 = 4 := y_73
          obtain rfl : nc_73 = 41 := z_73
          dsimp only [Pt.U, Pt.locs, Pt.cells, Pt.slots] at sn_73 gg_73 CH_73
          obtain ⟨X_73, HE_73, hZ, hown⟩ := OwnH.call HE_71 e_71 X_73 sn_73 gg_73 hZ hown CH_73
          obtain ⟨h_73, e_73⟩ : ∃ hh, T_73.heap = hh := ⟨_, rfl⟩
          rw [e_73] at hQ_73 HE_73 CH_73
          obtain ⟨rfl, N_73q, K_73⟩ := hQ_73
          have N_73 : Fr n0 L_73 := by rw [l_73]; exact Fr.app N_71 N_73q
          refine GoS.st (fun _ kk => st_73.trans kk) ?_
          have KK_73 : Keep h0 h_73 [] := KK_71.trans K_73 all0
          have z_73q : n0 ≤ h_73.size := Nat.le_trans z_71q K_73.1
          have ns_73 : ∀ x ∈ ([] : List Addr), ∀ cell : Cell, h_71[x]? = some cell → cell.vm.isStatics = false := all0
          show GoS p e below s _ _ _ _ _ T_73 (mkF m 88 #[.val (.int na), .val (.int nb), .val (.int (95 : Int32)), .val (.int rr_52), .val (.int (95 : Int32)), .val (.int (1 : Int32)), .val (.int (1 : Int32))] [(.int (1 : Int32))])
          refine GoS.st (fun _ => XS.ifYes X_73.here hx rfl (pc0 := 88) (pc' := 93) rfl (hb hby at_88) rfl ((if0 _ _).trans (feq (by decide : ¬ ((1 : Int32) = (0 : Int32)))).2) (by decide) (by decide)) ?_
          show GoS p e below s _ _ _ _ _ T_73 (mkF m 93 #[.val (.int na), .val (.int nb), .val (.int (95 : Int32)), .val (.int rr_52), .val (.int (95 : Int32)), .val (.int (1 : Int32)), .val (.int (1 : Int32))] [])
          refine GoS.st (fun _ => XS.iload X_73.here hx rfl (hb hby at_93) rfl) ?_
          show GoS p e below s _ _ _ _ _ T_73 (mkF m 95 #[.val (.int na), .val (.int nb), .val (.int (95 : Int32)), .val (.int rr_52), .val (.int (95 : Int32)), .val (.int (1 : Int32)), .val (.int (1 : Int32))] [(.int (95 : Int32))])
          obtain ⟨_, _, ⟨T_76, L_76, kc_76, nc_76⟩, -, X_76, ⟨Lc_76, hQ_76, l_76, y_76, z_76⟩, st_76⟩ := Jvm.LawKit.callS X_73 hx (y := (⟨"com/example/contextwire/contextwire/RequestId", "isNodeEnd", "(C)Z"⟩ : MethodName)) hown (mvT hZ (hw _ (List.mem_of_getElem? (i := 2) rfl))) (mvT hZ (hw _ (List.mem_of_getElem? (i := 3) rfl))) (mvT hZ (hw _ (List.mem_of_getElem? (i := 4) rfl))) (mvT hZ (hw _ (List.mem_of_getElem? (i := 5) rfl))) (by decide) (backOf (W := 0) (rmNe95 l Z a0 hw []  h_73 n0 z_73q ) hZ (hw _ (List.mem_of_getElem? (i := 5) rfl)) (hw _ (List.mem_of_getElem? (i := 4) rfl)) (by decide) (by decide)) (g := (mkF m 95 #[.val (.int na), .val (.int nb), .val (.int (95 : Int32)), .val (.int rr_52), .val (.int (95 : Int32)), .val (.int (1 : Int32)), .val (.int (1 : Int32))] [(.int (95 : Int32))])) rfl (by rw [hml]; rfl) (argsL := [(.int (95 : Int32))]) (rest := []) (lenOf pd_0 rfl) rfl (by show 2 * 0 + _ ≤ _; exact Nat.le_of_eq rfl) (hb hby at_95) (fun _ _ => ⟨rfl, e_73, (by decide : 4 + 0 ≤ _), (by decide : 41 + 0 ≤ _)⟩)
          dsimp only [Pt.U, Pt.locs, Pt.cells, Pt.slots] at X_76 l_76 y_76 z_76 st_76 hQ_76
          obtain rfl : kc_76 = 4 := y_76
          obtain rfl : nc_76 = 41 := z_76
          obtain ⟨h_76, e_76⟩ : ∃ hh, T_76.heap = hh := ⟨_, rfl⟩
          rw [e_76] at hQ_76
          obtain ⟨rfl, N_76q, sm_76⟩ := hQ_76
          have N_76 : Fr n0 L_76 := by rw [l_76]; exact Fr.app N_73 N_76q
          refine GoS.st st_76 ?_
          rw [sm_76] at e_76
          show GoS p e below s _ _ _ _ _ T_76 (mkF m 98 #[.val (.int na), .val (.int nb), .val (.int (95 : Int32)), .val (.int rr_52), .val (.int (95 : Int32)), .val (.int (1 : Int32)), .val (.int (1 : Int32))] [(.int (1 : Int32))])
          refine GoS.st (fun _ => XS.ifYes X_76.here hx rfl (pc0 := 98) (pc' := 103) rfl (hb hby at_98) rfl ((if0 _ _).trans (feq (by decide : ¬ ((1 : Int32) = (0 : Int32)))).2) (by decide) (by decide)) ?_
          show GoS p e below s _ _ _ _ _ T_76 (mkF m 103 #[.val (.int na), .val (.int nb), .val (.int (95 : Int32)), .val (.int rr_52), .val (.int (95 : Int32)), .val (.int (1 : Int32)), .val (.int (1 : Int32))] [])
          refine GoS.st (fun _ => XS.iload X_76.here hx rfl (hb hby at_103) rfl) ?_
          show GoS p e below s _ _ _ _ _ T_76 (mkF m 105 #[.val (.int na), .val (.int nb), .val (.int (95 : Int32)), .val (.int rr_52), .val (.int (95 : Int32)), .val (.int (1 : Int32)), .val (.int (1 : Int32))] [(.int (95 : Int32))])
          have f_78 := (own_sta_keep f_74 K_73 ns_73)
          obtain ⟨_, _, ⟨T_77, L_77, kc_77, nc_77⟩, -, X_77, ⟨Lc_77, hQ_77, l_77, y_77, z_77⟩, st_77⟩ := Jvm.LawKit.callS X_76 hx (y := (⟨"java/lang/String", "valueOf", "(C)Ljava/lang/String;"⟩ : MethodName)) hown (mvT hZ (hw _ (List.mem_of_getElem? (i := 6) rfl))) (mvT hZ (hw _ (List.mem_of_getElem? (i := 7) rfl))) (mvT hZ (hw _ (List.mem_of_getElem? (i := 8) rfl))) (mvT hZ (hw _ (List.mem_of_getElem? (i := 9) rfl))) (by decide) (backOf (W := 0) (rmVo l Z a0 hw [] (95 : Int32) cs h_73 n0 z_73q f_78 hcs (by decide)) hZ (hw _ (List.mem_of_getElem? (i := 9) rfl)) (hw _ (List.mem_of_getElem? (i := 8) rfl)) (by decide) (by decide)) (g := (mkF m 105 #[.val (.int na), .val (.int nb), .val (.int (95 : Int32)), .val (.int rr_52), .val (.int (95 : Int32)), .val (.int (1 : Int32)), .val (.int (1 : Int32))] [(.int (95 : Int32))])) rfl (by rw [hml]; rfl) (argsL := [(.int (95 : Int32))]) (rest := []) (lenOf pd_14 rfl) rfl (by show 2 * 0 + _ ≤ _; exact Nat.le_of_eq rfl) (hb hby at_105) (fun _ _ => ⟨rfl, e_76, (by decide : 4 + 2 ≤ _), (by decide : 41 + 5 ≤ _)⟩)
          dsimp only [Pt.U, Pt.locs, Pt.cells, Pt.slots] at X_77 l_77 y_77 z_77 st_77 hQ_77
          obtain rfl : kc_77 = 6 := y_77
          obtain rfl : nc_77 = 46 := z_77
          obtain ⟨h_77, e_77⟩ : ∃ hh, T_77.heap = hh := ⟨_, rfl⟩
          rw [e_77] at hQ_77
          obtain ⟨b__77, d__77, kd__77, rfl, N_77q, K_77, p_77_0, p_77_1, p_77_2, p_77_3, p_77_4, p_77_5, p_77_6, p_77_7, p_77_8⟩ := hQ_77
          have N_77 : Fr n0 L_77 := by rw [l_77]; exact Fr.app N_76 N_77q
          refine GoS.st st_77 ?_
          have f_79 := (p_71_2.keep K_73)
          have ne_b__71_b__77 : b__71 ≠ b__77 := Nat.ne_of_lt (Nat.lt_of_lt_of_le f_79.lt p_77_0)
          have f_80 := (W_72.keep K_73 nin0)
          have ne_d__71_b__77 : d__71 ≠ b__77 := Nat.ne_of_lt (Nat.lt_of_lt_of_le f_80.lt p_77_0)
          have ne_b__71_d__77 : b__71 ≠ d__77 := Nat.ne_of_lt (Nat.lt_of_lt_of_le f_79.lt p_77_5)
          have ne_d__71_d__77 : d__71 ≠ d__77 := Nat.ne_of_lt (Nat.lt_of_lt_of_le f_80.lt p_77_5)
          have KK_77 : Keep h0 h_77 [] := KK_73.trans K_77 all0
          have z_77q : n0 ≤ h_77.size := Nat.le_trans z_73q K_77.1
          have ns_77 : ∀ x ∈ ([] : List Addr), ∀ cell : Cell, h_73[x]? = some cell → cell.vm.isStatics = false := all0
          have HE_77 := HE_73.keep K_77 sf0
          have sz_77_0 : h0.size ≤ b__77 := Nat.le_trans KK_73.1 p_77_0
          have sz_77_5 : h0.size ≤ d__77 := Nat.le_trans KK_73.1 p_77_5
          show GoS p e below s _ _ _ _ _ T_77 (mkF m 108 #[.val (.int na), .val (.int nb), .val (.int (95 : Int32)), .val (.int rr_52), .val (.int (95 : Int32)), .val (.int (1 : Int32)), .val (.int (1 : Int32))] [(.ref b__77)])
          have W_81 := p_77_7
          rw [show ((95 : Int32)).toInt8.toInt32 = (95 : Int32) from by decide] at W_81
          have f_83 := (own_sta_keep f_78 K_77 ns_77)
          have f_84 := (own_sta_keep (own_sta_keep f_75 K_73 ns_73) K_77 ns_77)
          obtain ⟨_, _, ⟨T_82, L_82, kc_82, nc_82⟩, -, X_82, sn_82, gg_82, ⟨Lc_82, hQ_82, l_82, y_82, z_82, CH_82⟩, st_82⟩ := callSS X_77 hx (y := (⟨"com/example/contextwire/contextwire/RequestId", "isValid", "(Ljava/lang/String;)Z"⟩ : MethodName)) hown (mvT hZ (hw _ (List.mem_of_getElem? (i := 32) rfl))) (mvT hZ (hw _ (List.mem_of_getElem? (i := 33) rfl))) (mvT hZ (hw _ (List.mem_of_getElem? (i := 4) rfl))) (mvT hZ (hw _ (List.mem_of_getElem? (i := 34) rfl))) (by decide) (backOfSH (s := s) (vm0 := T_73.vm) (W := 0) (rmVa95 l Z a0 hw [] b__77 cs d__77 kd__77 fm h_77 n0 z_77q f_83 hcs f_84 rf_fm p_77_2 p_77_4 p_77_3 W_81) hZ (hw _ (List.mem_of_getElem? (i := 34) rfl)) (hw _ (List.mem_of_getElem? (i := 4) rfl)) (by decide) (by decide) hEL HE_77.chv) (g := (mkF m 108 #[.val (.int na), .val (.int nb), .val (.int (95 : Int32)), .val (.int rr_52), .val (.int (95 : Int32)), .val (.int (1 : Int32)), .val (.int (1 : Int32))] [(.ref b__77)])) rfl (by rw [hml]; rfl) (argsL := [(.ref b__77)]) (rest := []) (lenOf pd_15 rfl) rfl (by show 2 * 0 + _ ≤ _; exact Nat.le_of_eq rfl) (hb hby at_108) (fun _ _ => ⟨rfl, e_77, (by decide : 6 + 2 ≤ _), (by decide : 46 + 36 ≤ _)⟩)
          dsimp only [Pt.U, Pt.locs, Pt.cells, Pt.slots] at X_82 l_82 y_82 z_82 st_82 hQ_82
          obtain rfl : kc_82 = 8 := y_82
          obtain rfl : nc_82 = 82 := z_82
          dsimp only [Pt.U, Pt.locs, Pt.cells, Pt.slots] at sn_82 gg_82 CH_82
          obtain ⟨X_82, HE_82, hZ, hown⟩ := OwnH.call HE_77 e_77 X_82 sn_82 gg_82 hZ hown CH_82
          obtain ⟨h_82, e_82⟩ : ∃ hh, T_82.heap = hh := ⟨_, rfl⟩
          rw [e_82] at hQ_82 HE_82 CH_82
          obtain ⟨rfl, N_82q, K_82⟩ := hQ_82
          have N_82 : Fr n0 L_82 := by rw [l_82]; exact Fr.app N_77 N_82q
          refine GoS.st (fun _ kk => st_82.trans kk) ?_
          have KK_82 : Keep h0 h_82 [] := KK_77.trans K_82 all0
          have z_82q : n0 ≤ h_82.size := Nat.le_trans z_77q K_82.1
          have ns_82 : ∀ x ∈ ([] : List Addr), ∀ cell : Cell, h_77[x]? = some cell → cell.vm.isStatics = false := all0
          show GoS p e below s _ _ _ _ _ T_82 (mkF m 111 #[.val (.int na), .val (.int nb), .val (.int (95 : Int32)), .val (.int rr_52), .val (.int (95 : Int32)), .val (.int (1 : Int32)), .val (.int (1 : Int32))] [(.int (1 : Int32))])
          exact GoS.retZ hZ hEL HE_82 e_82 X_82 hx hlk Bd.returns (hb hby at_111) rfl (by rw [e_82]; exact ⟨rfl, N_82⟩) (by decide) (by decide)
        · refine GoS.st (fun _ => XS.icmpYes X0.here hx rfl (pc0 := 24) (pc' := 32) rfl (hb hby at_24) rfl (feq hc_69).2 (by decide) (by decide)) ?_
          show GoS p e below s _ _ _ _ _ s₁ (mkF m 32 #[.val (.int na), .val (.int nb), .val (.int (95 : Int32)), .val (.int rr_52), .unset, .unset, .unset] [])
          refine GoS.st (fun _ => XS.bipush X0.here hx rfl (hb hby at_32)) ?_
          show GoS p e below s _ _ _ _ _ s₁ (mkF m 34 #[.val (.int na), .val (.int nb), .val (.int (95 : Int32)), .val (.int rr_52), .unset, .unset, .unset] [(.int (35 : Int32))])
          refine GoS.st (fun _ => XS.istore X0.here hx rfl (hb hby at_34) rfl (l' := #[.val (.int na), .val (.int nb), .val (.int (95 : Int32)), .val (.int rr_52), .val (.int (35 : Int32)), .unset, .unset]) rfl) ?_
          show GoS p e below s _ _ _ _ _ s₁ (mkF m 36 #[.val (.int na), .val (.int nb), .val (.int (95 : Int32)), .val (.int rr_52), .val (.int (35 : Int32)), .unset, .unset] [])
          refine GoS.st (fun _ => XS.iloadN X0.here hx rfl (hb hby at_36) rfl) ?_
          show GoS p e below s _ _ _ _ _ s₁ (mkF m 37 #[.val (.int na), .val (.int nb), .val (.int (95 : Int32)), .val (.int rr_52), .val (.int (35 : Int32)), .unset, .unset] [(.int (95 : Int32))])
          obtain ⟨_, _, ⟨T_85, L_85, kc_85, nc_85⟩, -, X_85, ⟨Lc_85, hQ_85, l_85, y_85, z_85⟩, st_85⟩ := Jvm.LawKit.callS X0 hx (y := (⟨"com/example/contextwire/contextwire/RequestId", "isNodeEnd", "(C)Z"⟩ : MethodName)) hown (mvT hZ (hw _ (List.mem_of_getElem? (i := 2) rfl))) (mvT hZ (hw _ (List.mem_of_getElem? (i := 3) rfl))) (mvT hZ (hw _ (List.mem_of_getElem? (i := 4) rfl))) (mvT hZ (hw _ (List.mem_of_getElem? (i := 5) rfl))) (by decide) (backOf (W := 0) (rmNe95 l Z a0 hw []  h0 n0 Z0 ) hZ (hw _ (List.mem_of_getElem? (i := 5) rfl)) (hw _ (List.mem_of_getElem? (i := 4) rfl)) (by decide) (by decide)) (g := (mkF m 37 #[.val (.int na), .val (.int nb), .val (.int (95 : Int32)), .val (.int rr_52), .val (.int (35 : Int32)), .unset, .unset] [(.int (95 : Int32))])) rfl (by rw [hml]; rfl) (argsL := [(.int (95 : Int32))]) (rest := []) (lenOf pd_0 rfl) rfl (by show 2 * 0 + _ ≤ _; exact Nat.le_of_eq rfl) (hb hby at_37) (fun _ _ => ⟨rfl, e0, (by decide : 0 + 0 ≤ _), (by decide : 0 + 0 ≤ _)⟩)
          dsimp only [Pt.U, Pt.locs, Pt.cells, Pt.slots] at X_85 l_85 y_85 z_85 st_85 hQ_85
          obtain rfl : kc_85 = 0 := y_85
          obtain rfl : nc_85 = 0 := z_85
          obtain ⟨h_85, e_85⟩ : ∃ hh, T_85.heap = hh := ⟨_, rfl⟩
          rw [e_85] at hQ_85
          obtain ⟨rfl, N_85q, sm_85⟩ := hQ_85
          have N_85 : Fr n0 L_85 := by rw [l_85]; exact Fr.app N0 N_85q
          refine GoS.st st_85 ?_
          rw [sm_85] at e_85
          show GoS p e below s _ _ _ _ _ T_85 (mkF m 40 #[.val (.int na), .val (.int nb), .val (.int (95 : Int32)), .val (.int rr_52), .val (.int (35 : Int32)), .unset, .unset] [(.int (1 : Int32))])
          refine GoS.st (fun _ => XS.istore X_85.here hx rfl (hb hby at_40) rfl (l' := #[.val (.int na), .val (.int nb), .val (.int (95 : Int32)), .val (.int rr_52), .val (.int (35 : Int32)), .val (.int (1 : Int32)), .unset]) rfl) ?_
          show GoS p e below s _ _ _ _ _ T_85 (mkF m 42 #[.val (.int na), .val (.int nb), .val (.int (95 : Int32)), .val (.int rr_52), .val (.int (35 : Int32)), .val (.int (1 : Int32)), .unset] [])
          refine GoS.st (fun _ => XS.iloadN X_85.here hx rfl (hb hby at_42) rfl) ?_
          show GoS p e below s _ _ _ _ _ T_85 (mkF m 43 #[.val (.int na), .val (.int nb), .val (.int (95 : Int32)), .val (.int rr_52), .val (.int (35 : Int32)), .val (.int (1 : Int32)), .unset] [(.int (95 : Int32))])
          refine GoS.st (fun _ => XS.bipush X_85.here hx rfl (hb hby at_43)) ?_
          show GoS p e below s _ _ _ _ _ T_85 (mkF m 45 #[.val (.int na), .val (.int nb), .val (.int (95 : Int32)), .val (.int rr_52), .val (.int (35 : Int32)), .val (.int (1 : Int32)), .unset] [(.int (46 : Int32)), (.int (95 : Int32))])
          refine GoS.st (fun _ => XS.icmpNo X_85.here hx rfl (hb hby at_45) rfl (feq (by decide : ¬ ((95 : Int32) = (46 : Int32)))).1) ?_
          show GoS p e below s _ _ _ _ _ T_85 (mkF m 48 #[.val (.int na), .val (.int nb), .val (.int (95 : Int32)), .val (.int rr_52), .val (.int (35 : Int32)), .val (.int (1 : Int32)), .unset] [])
          refine GoS.st (fun _ => XS.iloadN X_85.here hx rfl (hb hby at_48) rfl) ?_
          show GoS p e below s _ _ _ _ _ T_85 (mkF m 49 #[.val (.int na), .val (.int nb), .val (.int (95 : Int32)), .val (.int rr_52), .val (.int (35 : Int32)), .val (.int (1 : Int32)), .unset] [(.int (95 : Int32))])
          refine GoS.st (fun _ => XS.bipush X_85.here hx rfl (hb hby at_49)) ?_
          show GoS p e below s _ _ _ _ _ T_85 (mkF m 51 #[.val (.int na), .val (.int nb), .val (.int (95 : Int32)), .val (.int rr_52), .val (.int (35 : Int32)), .val (.int (1 : Int32)), .unset] [(.int (95 : Int32)), (.int (95 : Int32))])
          refine GoS.st (fun _ => XS.icmpYes X_85.here hx rfl (pc0 := 51) (pc' := 60) rfl (hb hby at_51) rfl (teq (by decide : (95 : Int32) = (95 : Int32))).1 (by decide) (by decide)) ?_
          show GoS p e below s _ _ _ _ _ T_85 (mkF m 60 #[.val (.int na), .val (.int nb), .val (.int (95 : Int32)), .val (.int rr_52), .val (.int (35 : Int32)), .val (.int (1 : Int32)), .unset] [])
          refine GoS.st (fun _ => XS.iconst X_85.here hx rfl (hb hby at_60)) ?_
          show GoS p e below s _ _ _ _ _ T_85 (mkF m 61 #[.val (.int na), .val (.int nb), .val (.int (95 : Int32)), .val (.int rr_52), .val (.int (35 : Int32)), .val (.int (1 : Int32)), .unset] [(.int (1 : Int32))])
          refine GoS.st (fun _ => XS.goto X_85.here hx rfl (pc0 := 61) (pc' := 65) rfl (hb hby at_61) (by decide) (by decide)) ?_
          show GoS p e below s _ _ _ _ _ T_85 (mkF m 65 #[.val (.int na), .val (.int nb), .val (.int (95 : Int32)), .val (.int rr_52), .val (.int (35 : Int32)), .val (.int (1 : Int32)), .unset] [(.int (1 : Int32))])
          refine GoS.st (fun _ => XS.istore X_85.here hx rfl (hb hby at_65) rfl (l' := #[.val (.int na), .val (.int nb), .val (.int (95 : Int32)), .val (.int rr_52), .val (.int (35 : Int32)), .val (.int (1 : Int32)), .val (.int (1 : Int32))]) rfl) ?_
          show GoS p e below s _ _ _ _ _ T_85 (mkF m 67 #[.val (.int na), .val (.int nb), .val (.int (95 : Int32)), .val (.int rr_52), .val (.int (35 : Int32)), .val (.int (1 : Int32)), .val (.int (1 : Int32))] [])
          refine GoS.st (fun _ => XS.iload X_85.here hx rfl (hb hby at_67) rfl) ?_
          show GoS p e below s _ _ _ _ _ T_85 (mkF m 69 #[.val (.int na), .val (.int nb), .val (.int (95 : Int32)), .val (.int rr_52), .val (.int (35 : Int32)), .val (.int (1 : Int32)), .val (.int (1 : Int32))] [(.int (1 : Int32))])
          refine GoS.st (fun _ => XS.iload X_85.here hx rfl (hb hby at_69) rfl) ?_
          show GoS p e below s _ _ _ _ _ T_85 (mkF m 71 #[.val (.int na), .val (.int nb), .val (.int (95 : Int32)), .val (.int rr_52), .val (.int (35 : Int32)), .val (.int (1 : Int32)), .val (.int (1 : Int32))] [(.int (1 : Int32)), (.int (1 : Int32))])
          refine GoS.st (fun _ => XS.icmpYes X_85.here hx rfl (pc0 := 71) (pc' := 76) rfl (hb hby at_71) rfl (teq (by decide : (1 : Int32) = (1 : Int32))).1 (by decide) (by decide)) ?_
          show GoS p e below s _ _ _ _ _ T_85 (mkF m 76 #[.val (.int na), .val (.int nb), .val (.int (95 : Int32)), .val (.int rr_52), .val (.int (35 : Int32)), .val (.int (1 : Int32)), .val (.int (1 : Int32))] [])
          refine GoS.st (fun _ => XS.iload X_85.here hx rfl (hb hby at_76) rfl) ?_
          show GoS p e below s _ _ _ _ _ T_85 (mkF m 78 #[.val (.int na), .val (.int nb), .val (.int (95 : Int32)), .val (.int rr_52), .val (.int (35 : Int32)), .val (.int (1 : Int32)), .val (.int (1 : Int32))] [(.int (1 : Int32))])
          refine GoS.st (fun _ => XS.ifNo X_85.here hx rfl (hb hby at_78) rfl ((if0 _ _).trans (feq (by decide : ¬ ((1 : Int32) = (0 : Int32)))).1)) ?_
          show GoS p e below s _ _ _ _ _ T_85 (mkF m 81 #[.val (.int na), .val (.int nb), .val (.int (95 : Int32)), .val (.int rr_52), .val (.int (35 : Int32)), .val (.int (1 : Int32)), .val (.int (1 : Int32))] [])
          refine GoS.st (fun _ => XS.iloadN X_85.here hx rfl (hb hby at_81) rfl) ?_
          show GoS p e below s _ _ _ _ _ T_85 (mkF m 82 #[.val (.int na), .val (.int nb), .val (.int (95 : Int32)), .val (.int rr_52), .val (.int (35 : Int32)), .val (.int (1 : Int32)), .val (.int (1 : Int32))] [(.int (95 : Int32))])
          obtain ⟨_, _, ⟨T_86, L_86, kc_86, nc_86⟩, -, X_86, ⟨Lc_86, hQ_86, l_86, y_86, z_86⟩, st_86⟩ := Jvm.LawKit.callS X_85 hx (y := (⟨"java/lang/String", "valueOf", "(C)Ljava/lang/String;"⟩ : MethodName)) hown (mvT hZ (hw _ (List.mem_of_getElem? (i := 6) rfl))) (mvT hZ (hw _ (List.mem_of_getElem? (i := 7) rfl))) (mvT hZ (hw _ (List.mem_of_getElem? (i := 8) rfl))) (mvT hZ (hw _ (List.mem_of_getElem? (i := 9) rfl))) (by decide) (backOf (W := 0) (rmVo l Z a0 hw [] (95 : Int32) cs h0 n0 Z0 S_COMPACT_STRINGS hcs (by decide)) hZ (hw _ (List.mem_of_getElem? (i := 9) rfl)) (hw _ (List.mem_of_getElem? (i := 8) rfl)) (by decide) (by decide)) (g := (mkF m 82 #[.val (.int na), .val (.int nb), .val (.int (95 : Int32)), .val (.int rr_52), .val (.int (35 : Int32)), .val (.int (1 : Int32)), .val (.int (1 : Int32))] [(.int (95 : Int32))])) rfl (by rw [hml]; rfl) (argsL := [(.int (95 : Int32))]) (rest := []) (lenOf pd_14 rfl) rfl (by show 2 * 0 + _ ≤ _; exact Nat.le_of_eq rfl) (hb hby at_82) (fun _ _ => ⟨rfl, e_85, (by decide : 0 + 2 ≤ _), (by decide : 0 + 5 ≤ _)⟩)
          dsimp only [Pt.U, Pt.locs, Pt.cells, Pt.slots] at X_86 l_86 y_86 z_86 st_86 hQ_86
          obtain rfl : kc_86 = 2 := y_86
          obtain rfl : nc_86 = 5 := z_86
          obtain ⟨h_86, e_86⟩ : ∃ hh, T_86.heap = hh := ⟨_, rfl⟩
          rw [e_86] at hQ_86
          obtain ⟨b__86, d__86, kd__86, rfl, N_86q, K_86, p_86_0, p_86_1, p_86_2, p_86_3, p_86_4, p_86_5, p_86_6, p_86_7, p_86_8⟩ := hQ_86
          have N_86 : Fr n0 L_86 := by rw [l_86]; exact Fr.app N_85 N_86q
          refine GoS.st st_86 ?_
          have KK_86 : Keep h0 h_86 [] := (Keep.refl h0 []).trans K_86 all0
          have z_86q : n0 ≤ h_86.size := Nat.le_trans Z0 K_86.1
          have ns_86 : ∀ x ∈ ([] : List Addr), ∀ cell : Cell, h0[x]? = some cell → cell.vm.isStatics = false := all0
          have HE_86 := HE0.keep K_86 sf0
          have sz_86_0 : h0.size ≤ b__86 := Nat.le_trans (Keep.refl h0 []).1 p_86_0
          have sz_86_5 : h0.size ≤ d__86 := Nat.le_trans (Keep.refl h0 []).1 p_86_5
          show GoS p e below s _ _ _ _ _ T_86 (mkF m 85 #[.val (.int na), .val (.int nb), .val (.int (95 : Int32)), .val (.int rr_52), .val (.int (35 : Int32)), .val (.int (1 : Int32)), .val (.int (1 : Int32))] [(.ref b__86)])
          have W_87 := p_86_7
          rw [show ((95 : Int32)).toInt8.toInt32 = (95 : Int32) from by decide] at W_87
          have f_89 := (own_sta_keep S_COMPACT_STRINGS K_86 ns_86)
          have f_90 := (own_sta_keep S_SIOOBE_FORMATTER K_86 ns_86)
          obtain ⟨_, _, ⟨T_88, L_88, kc_88, nc_88⟩, -, X_88, sn_88, gg_88, ⟨Lc_88, hQ_88, l_88, y_88, z_88, CH_88⟩, st_88⟩ := callSS X_86 hx (y := (⟨"com/example/contextwire/contextwire/RequestId", "isValid", "(Ljava/lang/String;)Z"⟩ : MethodName)) hown (mvT hZ (hw _ (List.mem_of_getElem? (i := 32) rfl))) (mvT hZ (hw _ (List.mem_of_getElem? (i := 33) rfl))) (mvT hZ (hw _ (List.mem_of_getElem? (i := 4) rfl))) (mvT hZ (hw _ (List.mem_of_getElem? (i := 34) rfl))) (by decide) (backOfSH (s := s) (vm0 := s.vm) (W := 0) (rmVa95 l Z a0 hw [] b__86 cs d__86 kd__86 fm h_86 n0 z_86q f_89 hcs f_90 rf_fm p_86_2 p_86_4 p_86_3 W_87) hZ (hw _ (List.mem_of_getElem? (i := 34) rfl)) (hw _ (List.mem_of_getElem? (i := 4) rfl)) (by decide) (by decide) hEL HE_86.chv) (g := (mkF m 85 #[.val (.int na), .val (.int nb), .val (.int (95 : Int32)), .val (.int rr_52), .val (.int (35 : Int32)), .val (.int (1 : Int32)), .val (.int (1 : Int32))] [(.ref b__86)])) rfl (by rw [hml]; rfl) (argsL := [(.ref b__86)]) (rest := []) (lenOf pd_15 rfl) rfl (by show 2 * 0 + _ ≤ _; exact Nat.le_of_eq rfl) (hb hby at_85) (fun _ _ => ⟨rfl, e_86, (by decide : 2 + 2 ≤ _), (by decide : 5 + 36 ≤ _)⟩)
          dsimp only [Pt.U, Pt.locs, Pt.cells, Pt.slots] at X_88 l_88 y_88 z_88 st_88 hQ_88
          obtain rfl : kc_88 = 4 := y_88
          obtain rfl : nc_88 = 41 := z_88
          dsimp only [Pt.U, Pt.locs, Pt.cells, Pt.slots] at sn_88 gg_88 CH_88
          obtain ⟨X_88, HE_88, hZ, hown⟩ := OwnH.call HE_86 e_86 X_88 sn_88 gg_88 hZ hown CH_88
          obtain ⟨h_88, e_88⟩ : ∃ hh, T_88.heap = hh := ⟨_, rfl⟩
          rw [e_88] at hQ_88 HE_88 CH_88
          obtain ⟨rfl, N_88q, K_88⟩ := hQ_88
          have N_88 : Fr n0 L_88 := by rw [l_88]; exact Fr.app N_86 N_88q
          refine GoS.st (fun _ kk => st_88.trans kk) ?_
          have KK_88 : Keep h0 h_88 [] := KK_86.trans K_88 all0
          have z_88q : n0 ≤ h_88.size := Nat.le_trans z_86q K_88.1
          have ns_88 : ∀ x ∈ ([] : List Addr), ∀ cell : Cell, h_86[x]? = some cell → cell.vm.isStatics = false := all0
          show GoS p e below s _ _ _ _ _ T_88 (mkF m 88 #[.val (.int na), .val (.int nb), .val (.int (95 : Int32)), .val (.int rr_52), .val (.int (35 : Int32)), .val (.int (1 : Int32)), .val (.int (1 : Int32))] [(.int (1 : Int32))])
          refine GoS.st (fun _ => XS.ifYes X_88.here hx rfl (pc0 := 88) (pc' := 93) rfl (hb hby at_88) rfl ((if0 _ _).trans (feq (by decide : ¬ ((1 : Int32) = (0 : Int32)))).2) (by decide) (by decide)) ?_
          show GoS p e below s _ _ _ _ _ T_88 (mkF m 93 #[.val (.int na), .val (.int nb), .val (.int (95 : Int32)), .val (.int rr_52), .val (.int (35 : Int32)), .val (.int (1 : Int32)), .val (.int (1 : Int32))] [])
          refine GoS.st (fun _ => XS.iload X_88.here hx rfl (hb hby at_93) rfl) ?_
          show GoS p e below s _ _ _ _ _ T_88 (mkF m 95 #[.val (.int na), .val (.int nb), .val (.int (95 : Int32)), .val (.int rr_52), .val (.int (35 : Int32)), .val (.int (1 : Int32)), .val (.int (1 : Int32))] [(.int (35 : Int32))])
          obtain ⟨_, _, ⟨T_91, L_91, kc_91, nc_91⟩, -, X_91, ⟨Lc_91, hQ_91, l_91, y_91, z_91⟩, st_91⟩ := Jvm.LawKit.callS X_88 hx (y := (⟨"com/example/contextwire/contextwire/RequestId", "isNodeEnd", "(C)Z"⟩ : MethodName)) hown (mvT hZ (hw _ (List.mem_of_getElem? (i := 2) rfl))) (mvT hZ (hw _ (List.mem_of_getElem? (i := 3) rfl))) (mvT hZ (hw _ (List.mem_of_getElem? (i := 4) rfl))) (mvT hZ (hw _ (List.mem_of_getElem? (i := 5) rfl))) (by decide) (backOf (W := 0) (rmNe35 l Z a0 hw []  h_88 n0 z_88q ) hZ (hw _ (List.mem_of_getElem? (i := 5) rfl)) (hw _ (List.mem_of_getElem? (i := 4) rfl)) (by decide) (by decide)) (g := (mkF m 95 #[.val (.int na), .val (.int nb), .val (.int (95 : Int32)), .val (.int rr_52), .val (.int (35 : Int32)), .val (.int (1 : Int32)), .val (.int (1 : Int32))] [(.int (35 : Int32))])) rfl (by rw [hml]; rfl) (argsL := [(.int (35 : Int32))]) (rest := []) (lenOf pd_0 rfl) rfl (by show 2 * 0 + _ ≤ _; exact Nat.le_of_eq rfl) (hb hby at_95) (fun _ _ => ⟨rfl, e_88, (by decide : 4 + 0 ≤ _), (by decide : 41 + 0 ≤ _)⟩)
          dsimp only [Pt.U, Pt.locs, Pt.cells, Pt.slots] at X_91 l_91 y_91 z_91 st_91 hQ_91
          obtain rfl : kc_91 = 4 := y_91
          obtain rfl : nc_91 = 41 := z_91
          obtain ⟨h_91, e_91⟩ : ∃ hh, T_91.heap = hh := ⟨_, rfl⟩
          rw [e_91] at hQ_91
          obtain ⟨rfl, N_91q, sm_91⟩ := hQ_91
          have N_91 : Fr n0 L_91 := by rw [l_91]; exact Fr.app N_88 N_91q
          refine GoS.st st_91 ?_
          rw [sm_91] at e_91
          show GoS p e below s _ _ _ _ _ T_91 (mkF m 98 #[.val (.int na), .val (.int nb), .val (.int (95 : Int32)), .val (.int rr_52), .val (.int (35 : Int32)), .val (.int (1 : Int32)), .val (.int (1 : Int32))] [(.int (1 : Int32))])
          refine GoS.st (fun _ => XS.ifYes X_91.here hx rfl (pc0 := 98) (pc' := 103) rfl (hb hby at_98) rfl ((if0 _ _).trans (feq (by decide : ¬ ((1 : Int32) = (0 : Int32)))).2) (by decide) (by decide)) ?_
          show GoS p e below s _ _ _ _ _ T_91 (mkF m 103 #[.val (.int na), .val (.int nb), .val (.int (95 : Int32)), .val (.int rr_52), .val (.int (35 : Int32)), .val (.int (1 : Int32)), .val (.int (1 : Int32))] [])
          refine GoS.st (fun _ => XS.iload X_91.here hx rfl (hb hby at_103) rfl) ?_
          show GoS p e below s _ _ _ _ _ T_91 (mkF m 105 #[.val (.int na), .val (.int nb), .val (.int (95 : Int32)), .val (.int rr_52), .val (.int (35 : Int32)), .val (.int (1 : Int32)), .val (.int (1 : Int32))] [(.int (35 : Int32))])
          have f_93 := (own_sta_keep f_89 K_88 ns_88)
          obtain ⟨_, _, ⟨T_92, L_92, kc_92, nc_92⟩, -, X_92, ⟨Lc_92, hQ_92, l_92, y_92, z_92⟩, st_92⟩ := Jvm.LawKit.callS X_91 hx (y := (⟨"java/lang/String", "valueOf", "(C)Ljava/lang/String;"⟩ : MethodName)) hown (mvT hZ (hw _ (List.mem_of_getElem? (i := 6) rfl))) (mvT hZ (hw _ (List.mem_of_getElem? (i := 7) rfl))) (mvT hZ (hw _ (List.mem_of_getElem? (i := 8) rfl))) (mvT hZ (hw _ (List.mem_of_getElem? (i := 9) rfl))) (by decide) (backOf (W := 0) (rmVo l Z a0 hw [] (35 : Int32) cs h_88 n0 z_88q f_93 hcs (by decide)) hZ (hw _ (List.mem_of_getElem? (i := 9) rfl)) (hw _ (List.mem_of_getElem? (i := 8) rfl)) (by decide) (by decide)) (g := (mkF m 105 #[.val (.int na), .val (.int nb), .val (.int (95 : Int32)), .val (.int rr_52), .val (.int (35 : Int32)), .val (.int (1 : Int32)), .val (.int (1 : Int32))] [(.int (35 : Int32))])) rfl (by rw [hml]; rfl) (argsL := [(.int (35 : Int32))]) (rest := []) (lenOf pd_14 rfl) rfl (by show 2 * 0 + _ ≤ _; exact Nat.le_of_eq rfl) (hb hby at_105) (fun _ _ => ⟨rfl, e_91, (by decide : 4 + 2 ≤ _), (by decide : 41 + 5 ≤ _)⟩)
          dsimp only [Pt.U, Pt.locs, Pt.cells, Pt.slots] at X_92 l_92 y_92 z_92 st_92 hQ_92
          obtain rfl : kc_92 = 6 := y_92
          obtain rfl : nc_92 = 46 := z_92
          obtain ⟨h_92, e_92⟩ : ∃ hh, T_92.heap = hh := ⟨_, rfl⟩
          rw [e_92] at hQ_92
          obtain ⟨b__92, d__92, kd__92, rfl, N_92q, K_92, p_92_0, p_92_1, p_92_2, p_92_3, p_92_4, p_92_5, p_92_6, p_92_7, p_92_8⟩ := hQ_92
          have N_92 : Fr n0 L_92 := by rw [l_92]; exact Fr.app N_91 N_92q
          refine GoS.st st_92 ?_
          have f_94 := (p_86_2.keep K_88)
          have ne_b__86_b__92 : b__86 ≠ b__92 := Nat.ne_of_lt (Nat.lt_of_lt_of_le f_94.lt p_92_0)
          have f_95 := (W_87.keep K_88 nin0)
          have ne_d__86_b__92 : d__86 ≠ b__92 := Nat.ne_of_lt (Nat.lt_of_lt_of_le f_95.lt p_92_0)
          have ne_b__86_d__92 : b__86 ≠ d__92 := Nat.ne_of_lt (Nat.lt_of_lt_of_le f_94.lt p_92_5)
          have ne_d__86_d__92 : d__86 ≠ d__92 := Nat.ne_of_lt (Nat.lt_of_lt_of_le f_95.lt p_92_5)
          have KK_92 : Keep h0 h_92 [] := KK_88.trans K_92 all0
          have z_92q : n0 ≤ h_92.size := Nat.le_trans z_88q K_92.1
          have ns_92 : ∀ x ∈ ([] : List Addr), ∀ cell : Cell, h_88[x]? = some cell → cell.vm.isStatics = false := all0
          have HE_92 := HE_88.keep K_92 sf0
          have sz_92_0 : h0.size ≤ b__92 := Nat.le_trans KK_88.1 p_92_0
          have sz_92_5 : h0.size ≤ d__92 := Nat.le_trans KK_88.1 p_92_5
          show GoS p e below s _ _ _ _ _ T_92 (mkF m 108 #[.val (.int na), .val (.int nb), .val (.int (95 : Int32)), .val (.int rr_52), .val (.int (35 : Int32)), .val (.int (1 : Int32)), .val (.int (1 : Int32))] [(.ref b__92)])
          have W_96 := p_92_7
          rw [show ((35 : Int32)).toInt8.toInt32 = (35 : Int32) from by decide] at W_96
          have f_98 := (own_sta_keep f_93 K_92 ns_92)
          have f_99 := (own_sta_keep (own_sta_keep f_90 K_88 ns_88) K_92 ns_92)
          obtain ⟨_, _, ⟨T_97, L_97, kc_97, nc_97⟩, -, X_97, sn_97, gg_97, ⟨Lc_97, hQ_97, l_97, y_97, z_97, CH_97⟩, st_97⟩ := callSS X_92 hx (y := (⟨"com/example/contextwire/contextwire/RequestId", "isValid", "(Ljava/lang/String;)Z"⟩ : MethodName)) hown (mvT hZ (hw _ (List.mem_of_getElem? (i := 32) rfl))) (mvT hZ (hw _ (List.mem_of_getElem? (i := 33) rfl))) (mvT hZ (hw _ (List.mem_of_getElem? (i := 4) rfl))) (mvT hZ (hw _ (List.mem_of_getElem? (i := 34) rfl))) (by decide) (backOfSH (s := s) (vm0 := T_88.vm) (W := 0) (rmVa35 l Z a0 hw [] b__92 cs d__92 kd__92 fm h_92 n0 z_92q f_98 hcs f_99 rf_fm p_92_2 p_92_4 p_92_3 W_96) hZ (hw _ (List.mem_of_getElem? (i := 34) rfl)) (hw _ (List.mem_of_getElem? (i := 4) rfl)) (by decide) (by decide) hEL HE_92.chv) (g := (mkF m 108 #[.val (.int na), .val (.int nb), .val (.int (95 : Int32)), .val (.int rr_52), .val (.int (35 : Int32)), .val (.int (1 : Int32)), .val (.int (1 : Int32))] [(.ref b__92)])) rfl (by rw [hml]; rfl) (argsL := [(.ref b__92)]) (rest := []) (lenOf pd_15 rfl) rfl (by show 2 * 0 + _ ≤ _; exact Nat.le_of_eq rfl) (hb hby at_108) (fun _ _ => ⟨rfl, e_92, (by decide : 6 + 2 ≤ _), (by decide : 46 + 36 ≤ _)⟩)
          dsimp only [Pt.U, Pt.locs, Pt.cells, Pt.slots] at X_97 l_97 y_97 z_97 st_97 hQ_97
          obtain rfl : kc_97 = 8 := y_97
          obtain rfl : nc_97 = 82 := z_97
          dsimp only [Pt.U, Pt.locs, Pt.cells, Pt.slots] at sn_97 gg_97 CH_97
          obtain ⟨X_97, HE_97, hZ, hown⟩ := OwnH.call HE_92 e_92 X_97 sn_97 gg_97 hZ hown CH_97
          obtain ⟨h_97, e_97⟩ : ∃ hh, T_97.heap = hh := ⟨_, rfl⟩
          rw [e_97] at hQ_97 HE_97 CH_97
          obtain ⟨rfl, N_97q, K_97⟩ := hQ_97
          have N_97 : Fr n0 L_97 := by rw [l_97]; exact Fr.app N_92 N_97q
          refine GoS.st (fun _ kk => st_97.trans kk) ?_
          have KK_97 : Keep h0 h_97 [] := KK_92.trans K_97 all0
          have z_97q : n0 ≤ h_97.size := Nat.le_trans z_92q K_97.1
          have ns_97 : ∀ x ∈ ([] : List Addr), ∀ cell : Cell, h_92[x]? = some cell → cell.vm.isStatics = false := all0
          show GoS p e below s _ _ _ _ _ T_97 (mkF m 111 #[.val (.int na), .val (.int nb), .val (.int (95 : Int32)), .val (.int rr_52), .val (.int (35 : Int32)), .val (.int (1 : Int32)), .val (.int (1 : Int32))] [(.int (1 : Int32))])
          exact GoS.retZ hZ hEL HE_97 e_97 X_97 hx hlk Bd.returns (hb hby at_111) rfl (by rw [e_97]; exact ⟨rfl, N_97⟩) (by decide) (by decide)
    · by_cases hc_100 : ch_1 = (35 : Int32)
      · rw [hc_100]
        show GoS p e below s _ _ _ _ _ s₁ (mkF m 5 #[.val (.int na), .val (.int nb), .unset, .unset, .unset, .unset, .unset] [(.int (35 : Int32))])
        refine GoS.st (fun _ => XS.istoreN X0.here hx rfl (hb hby at_5) rfl (l' := #[.val (.int na), .val (.int nb), .val (.int (35 : Int32)), .unset, .unset, .unset, .unset]) rfl) ?_
        show GoS p e below s _ _ _ _ _ s₁ (mkF m 6 #[.val (.int na), .val (.int nb), .val (.int (35 : Int32)), .unset, .unset, .unset, .unset] [])
        refine GoS.st (fun _ => XS.iloadN X0.here hx rfl (hb hby at_6) rfl) ?_
        show GoS p e below s _ _ _ _ _ s₁ (mkF m 7 #[.val (.int na), .val (.int nb), .val (.int (35 : Int32)), .unset, .unset, .unset, .unset] [(.int nb)])
        refine GoS.st (fun tG => X0.ldcInt hx hown (mvT hZ (hw _ (List.mem_of_getElem? (i := 1) rfl))) (g := (mkF m 7 #[.val (.int na), .val (.int nb), .val (.int (35 : Int32)), .unset, .unset, .unset, .unset] [(.int nb)])) rfl (hb hby at_7) tG) ?_
        show GoS p e below s _ _ _ _ _ s₁ (mkF m 9 #[.val (.int na), .val (.int nb), .val (.int (35 : Int32)), .unset, .unset, .unset, .unset] [(.int (2147483647 : Int32)), (.int nb)])
        refine GoS.st (fun _ => XS.iand X0.here hx rfl (hb hby at_9) rfl) ?_
        show GoS p e below s _ _ _ _ _ s₁ (mkF m 10 #[.val (.int na), .val (.int nb), .val (.int (35 : Int32)), .unset, .unset, .unset, .unset] [(.int (nb &&& (2147483647 : Int32)))])
        refine GoS.st (fun _ => XS.iconst X0.here hx rfl (hb hby at_10)) ?_
        show GoS p e below s _ _ _ _ _ s₁ (mkF m 11 #[.val (.int na), .val (.int nb), .val (.int (35 : Int32)), .unset, .unset, .unset, .unset] [(.int (3 : Int32)), (.int (nb &&& (2147483647 : Int32)))])
        refine GoS.st (fun _ => iremM X0 hx rfl (hb hby at_11) rfl (by decide)) ?_
        show GoS p e below s _ _ _ _ _ s₁ (mkF m 12 #[.val (.int na), .val (.int nb), .val (.int (35 : Int32)), .unset, .unset, .unset, .unset] [(.int ((nb &&& (2147483647 : Int32)) % (3 : Int32)))])
        refine GoS.st (fun _ => XS.istoreN X0.here hx rfl (hb hby at_12) rfl (l' := #[.val (.int na), .val (.int nb), .val (.int (35 : Int32)), .val (.int ((nb &&& (2147483647 : Int32)) % (3 : Int32))), .unset, .unset, .unset]) rfl) ?_
        show GoS p e below s _ _ _ _ _ s₁ (mkF m 13 #[.val (.int na), .val (.int nb), .val (.int (35 : Int32)), .val (.int ((nb &&& (2147483647 : Int32)) % (3 : Int32))), .unset, .unset, .unset] [])
        obtain ⟨rr_101, hrr_101⟩ : ∃ z, z = ((nb &&& (2147483647 : Int32)) % (3 : Int32)) := ⟨_, rfl⟩
        rw [← hrr_101]
        show GoS p e below s _ _ _ _ _ s₁ (mkF m 13 #[.val (.int na), .val (.int nb), .val (.int (35 : Int32)), .val (.int rr_101), .unset, .unset, .unset] [])
        refine GoS.st (fun _ => XS.iloadN X0.here hx rfl (hb hby at_13) rfl) ?_
        show GoS p e below s _ _ _ _ _ s₁ (mkF m 14 #[.val (.int na), .val (.int nb), .val (.int (35 : Int32)), .val (.int rr_101), .unset, .unset, .unset] [(.int rr_101)])
        by_cases hc_102 : rr_101 = (0 : Int32)
        · refine GoS.st (fun _ => XS.ifNo X0.here hx rfl (hb hby at_14) rfl ((if0 _ _).trans (teq hc_102).2)) ?_
          show GoS p e below s _ _ _ _ _ s₁ (mkF m 17 #[.val (.int na), .val (.int nb), .val (.int (35 : Int32)), .val (.int rr_101), .unset, .unset, .unset] [])
          refine GoS.st (fun _ => XS.bipush X0.here hx rfl (hb hby at_17)) ?_
          show GoS p e below s _ _ _ _ _ s₁ (mkF m 19 #[.val (.int na), .val (.int nb), .val (.int (35 : Int32)), .val (.int rr_101), .unset, .unset, .unset] [(.int (46 : Int32))])
          refine GoS.st (fun _ => XS.goto X0.here hx rfl (pc0 := 19) (pc' := 34) rfl (hb hby at_19) (by decide) (by decide)) ?_
          show GoS p e below s _ _ _ _ _ s₁ (mkF m 34 #[.val (.int na), .val (.int nb), .val (.int (35 : Int32)), .val (.int rr_101), .unset, .unset, .unset] [(.int (46 : Int32))])
          refine GoS.st (fun _ => XS.istore X0.here hx rfl (hb hby at_34) rfl (l' := #[.val (.int na), .val (.int nb), .val (.int (35 : Int32)), .val (.int rr_101), .val (.int (46 : Int32)), .unset, .unset]) rfl) ?_
          show GoS p e below s _ _ _ _ _ s₁ (mkF m 36 #[.val (.int na), .val (.int nb), .val (.int (35 : Int32)), .val (.int rr_101), .val (.int (46 : Int32)), .unset, .unset] [])
          refine GoS.st (fun _ => XS.iloadN X0.here hx rfl (hb hby at_36) rfl) ?_
          show GoS p e below s _ _ _ _ _ s₁ (mkF m 37 #[.val (.int na), .val (.int nb), .val (.int (35 : Int32)), .val (.int rr_101), .val (.int (46 : Int32)), .unset, .unset] [(.int (35 : Int32))])
          obtain ⟨_, _, ⟨T_103, L_103, kc_103, nc_103⟩, -, X_103, ⟨Lc_103, hQ_103, l_103, y_103, z_103⟩, st_103⟩ := Jvm.LawKit.callS X0 hx (y := (⟨"com/example/contextwire/contextwire/RequestId", "isNodeEnd", "(C)Z"⟩ : MethodName)) hown (mvT hZ (hw _ (List.mem_of_getElem? (i := 2) rfl))) (mvT hZ (hw _ (List.mem_of_getElem? (i := 3) rfl))) (mvT hZ (hw _ (List.mem_of_getElem? (i := 4) rfl))) (mvT hZ (hw _ (List.mem_of_getElem? (i := 5) rfl))) (by decide) (backOf (W := 0) (rmNe35 l Z a0 hw []  h0 n0 Z0 ) hZ (hw _ (List.mem_of_getElem? (i := 5) rfl)) (hw _ (List.mem_of_getElem? (i := 4) rfl)) (by decide) (by decide)) (g := (mkF m 37 #[.val (.int na), .val (.int nb), .val (.int (35 : Int32)), .val (.int rr_101), .val (.int (46 : Int32)), .unset, .unset] [(.int (35 : Int32))])) rfl (by rw [hml]; rfl) (argsL := [(.int (35 : Int32))]) (rest := []) (lenOf pd_0 rfl) rfl (by show 2 * 0 + _ ≤ _; exact Nat.le_of_eq rfl) (hb hby at_37) (fun _ _ => ⟨rfl, e0, (by decide : 0 + 0 ≤ _), (by decide : 0 + 0 ≤ _)⟩)
          dsimp only [Pt.U, Pt.locs, Pt.cells, Pt.slots] at X_103 l_103 y_103 z_103 st_103 hQ_103
          obtain rfl : kc_103 = 0 := y_103
          obtain rfl : nc_103 = 0 := z_103
          obtain ⟨h_103, e_103⟩ : ∃ hh, T_103.heap = hh := ⟨_, rfl⟩
          rw [e_103] at hQ_103
          obtain ⟨rfl, N_103q, sm_103⟩ := hQ_103
          have N_103 : Fr n0 L_103 := by rw [l_103]; exact Fr.app N0 N_103q
          refine GoS.st st_103 ?_
          rw [sm_103] at e_103
          show GoS p e below s _ _ _ _ _ T_103 (mkF m 40 #[.val (.int na), .val (.int nb), .val (.int (35 : Int32)), .val (.int rr_101), .val (.int (46 : Int32)), .unset, .unset] [(.int (1 : Int32))])
          refine GoS.st (fun _ => XS.istore X_103.here hx rfl (hb hby at_40) rfl (l' := #[.val (.int na), .val (.int nb), .val (.int (35 : Int32)), .val (.int rr_101), .val (.int (46 : Int32)), .val (.int (1 : Int32)), .unset]) rfl) ?_
          show GoS p e below s _ _ _ _ _ T_103 (mkF m 42 #[.val (.int na), .val (.int nb), .val (.int (35 : Int32)), .val (.int rr_101), .val (.int (46 : Int32)), .val (.int (1 : Int32)), .unset] [])
          refine GoS.st (fun _ => XS.iloadN X_103.here hx rfl (hb hby at_42) rfl) ?_
          show GoS p e below s _ _ _ _ _ T_103 (mkF m 43 #[.val (.int na), .val (.int nb), .val (.int (35 : Int32)), .val (.int rr_101), .val (.int (46 : Int32)), .val (.int (1 : Int32)), .unset] [(.int (35 : Int32))])
          refine GoS.st (fun _ => XS.bipush X_103.here hx rfl (hb hby at_43)) ?_
          show GoS p e below s _ _ _ _ _ T_103 (mkF m 45 #[.val (.int na), .val (.int nb), .val (.int (35 : Int32)), .val (.int rr_101), .val (.int (46 : Int32)), .val (.int (1 : Int32)), .unset] [(.int (46 : Int32)), (.int (35 : Int32))])
          refine GoS.st (fun _ => XS.icmpNo X_103.here hx rfl (hb hby at_45) rfl (feq (by decide : ¬ ((35 : Int32) = (46 : Int32)))).1) ?_
          show GoS p e below s _ _ _ _ _ T_103 (mkF m 48 #[.val (.int na), .val (.int nb), .val (.int (35 : Int32)), .val (.int rr_101), .val (.int (46 : Int32)), .val (.int (1 : Int32)), .unset] [])
          refine GoS.st (fun _ => XS.iloadN X_103.here hx rfl (hb hby at_48) rfl) ?_
          show GoS p e below s _ _ _ _ _ T_103 (mkF m 49 #[.val (.int na), .val (.int nb), .val (.int (35 : Int32)), .val (.int rr_101), .val (.int (46 : Int32)), .val (.int (1 : Int32)), .unset] [(.int (35 : Int32))])
          refine GoS.st (fun _ => XS.bipush X_103.here hx rfl (hb hby at_49)) ?_
          show GoS p e below s _ _ _ _ _ T_103 (mkF m 51 #[.val (.int na), .val (.int nb), .val (.int (35 : Int32)), .val (.int rr_101), .val (.int (46 : Int32)), .val (.int (1 : Int32)), .unset] [(.int (95 : Int32)), (.int (35 : Int32))])
          refine GoS.st (fun _ => XS.icmpNo X_103.here hx rfl (hb hby at_51) rfl (feq (by decide : ¬ ((35 : Int32) = (95 : Int32)))).1) ?_
          show GoS p e below s _ _ _ _ _ T_103 (mkF m 54 #[.val (.int na), .val (.int nb), .val (.int (35 : Int32)), .val (.int rr_101), .val (.int (46 : Int32)), .val (.int (1 : Int32)), .unset] [])
          refine GoS.st (fun _ => XS.iloadN X_103.here hx rfl (hb hby at_54) rfl) ?_
          show GoS p e below s _ _ _ _ _ T_103 (mkF m 55 #[.val (.int na), .val (.int nb), .val (.int (35 : Int32)), .val (.int rr_101), .val (.int (46 : Int32)), .val (.int (1 : Int32)), .unset] [(.int (35 : Int32))])
          refine GoS.st (fun _ => XS.bipush X_103.here hx rfl (hb hby at_55)) ?_
          show GoS p e below s _ _ _ _ _ T_103 (mkF m 57 #[.val (.int na), .val (.int nb), .val (.int (35 : Int32)), .val (.int rr_101), .val (.int (46 : Int32)), .val (.int (1 : Int32)), .unset] [(.int (35 : Int32)), (.int (35 : Int32))])
          refine GoS.st (fun _ => XS.icmpNo X_103.here hx rfl (hb hby at_57) rfl (teq (by decide : (35 : Int32) = (35 : Int32))).2) ?_
          show GoS p e below s _ _ _ _ _ T_103 (mkF m 60 #[.val (.int na), .val (.int nb), .val (.int (35 : Int32)), .val (.int rr_101), .val (.int (46 : Int32)), .val (.int (1 : Int32)), .unset] [])
          refine GoS.st (fun _ => XS.iconst X_103.here hx rfl (hb hby at_60)) ?_
          show GoS p e below s _ _ _ _ _ T_103 (mkF m 61 #[.val (.int na), .val (.int nb), .val (.int (35 : Int32)), .val (.int rr_101), .val (.int (46 : Int32)), .val (.int (1 : Int32)), .unset] [(.int (1 : Int32))])
          refine GoS.st (fun _ => XS.goto X_103.here hx rfl (pc0 := 61) (pc' := 65) rfl (hb hby at_61) (by decide) (by decide)) ?_
          show GoS p e below s _ _ _ _ _ T_103 (mkF m 65 #[.val (.int na), .val (.int nb), .val (.int (35 : Int32)), .val (.int rr_101), .val (.int (46 : Int32)), .val (.int (1 : Int32)), .unset] [(.int (1 : Int32))])
          refine GoS.st (fun _ => XS.istore X_103.here hx rfl (hb hby at_65) rfl (l' := #[.val (.int na), .val (.int nb), .val (.int (35 : Int32)), .val (.int rr_101), .val (.int (46 : Int32)), .val (.int (1 : Int32)), .val (.int (1 : Int32))]) rfl) ?_
          show GoS p e below s _ _ _ _ _ T_103 (mkF m 67 #[.val (.int na), .val (.int nb), .val (.int (35 : Int32)), .val (.int rr_101), .val (.int (46 : Int32)), .val (.int (1 : Int32)), .val (.int (1 : Int32))] [])
          refine GoS.st (fun _ => XS.iload X_103.here hx rfl (hb hby at_67) rfl) ?_
          show GoS p e below s _ _ _ _ _ T_103 (mkF m 69 #[.val (.int na), .val (.int nb), .val (.int (35 : Int32)), .val (.int rr_101), .val (.int (46 : Int32)), .val (.int (1 : Int32)), .val (.int (1 : Int32))] [(.int (1 : Int32))])
          refine GoS.st (fun _ => XS.iload X_103.here hx rfl (hb hby at_69) rfl) ?_
          show GoS p e below s _ _ _ _ _ T_103 (mkF m 71 #[.val (.int na), .val (.int nb), .val (.int (35 : Int32)), .val (.int rr_101), .val (.int (46 : Int32)), .val (.int (1 : Int32)), .val (.int (1 : Int32))] [(.int (1 : Int32)), (.int (1 : Int32))])
          refine GoS.st (fun _ => XS.icmpYes X_103.here hx rfl (pc0 := 71) (pc' := 76) rfl (hb hby at_71) rfl (teq (by decide : (1 : Int32) = (1 : Int32))).1 (by decide) (by decide)) ?_
          show GoS p e below s _ _ _ _ _ T_103 (mkF m 76 #[.val (.int na), .val (.int nb), .val (.int (35 : Int32)), .val (.int rr_101), .val (.int (46 : Int32)), .val (.int (1 : Int32)), .val (.int (1 : Int32))] [])
          refine GoS.st (fun _ => XS.iload X_103.here hx rfl (hb hby at_76) rfl) ?_
          show GoS p e below s _ _ _ _ _ T_103 (mkF m 78 #[.val (.int na), .val (.int nb), .val (.int (35 : Int32)), .val (.int rr_101), .val (.int (46 : Int32)), .val (.int (1 : Int32)), .val (.int (1 : Int32))] [(.int (1 : Int32))])
          refine GoS.st (fun _ => XS.ifNo X_103.here hx rfl (hb hby at_78) rfl ((if0 _ _).trans (feq (by decide : ¬ ((1 : Int32) = (0 : Int32)))).1)) ?_
          show GoS p e below s _ _ _ _ _ T_103 (mkF m 81 #[.val (.int na), .val (.int nb), .val (.int (35 : Int32)), .val (.int rr_101), .val (.int (46 : Int32)), .val (.int (1 : Int32)), .val (.int (1 : Int32))] [])
          refine GoS.st (fun _ => XS.iloadN X_103.here hx rfl (hb hby at_81) rfl) ?_
          show GoS p e below s _ _ _ _ _ T_103 (mkF m 82 #[.val (.int na), .val (.int nb), .val (.int (35 : Int32)), .val (.int rr_101), .val (.int (46 : Int32)), .val (.int (1 : Int32)), .val (.int (1 : Int32))] [(.int (35 : Int32))])
          obtain ⟨_, _, ⟨T_104, L_104, kc_104, nc_104⟩, -, X_104, ⟨Lc_104, hQ_104, l_104, y_104, z_104⟩, st_104⟩ := Jvm.LawKit.callS X_103 hx (y := (⟨"java/lang/String", "valueOf", "(C)Ljava/lang/String;"⟩ : MethodName)) hown (mvT hZ (hw _ (List.mem_of_getElem? (i := 6) rfl))) (mvT hZ (hw _ (List.mem_of_getElem? (i := 7) rfl))) (mvT hZ (hw _ (List.mem_of_getElem? (i := 8) rfl))) (mvT hZ (hw _ (List.mem_of_getElem? (i := 9) rfl))) (by decide) (backOf (W := 0) (rmVo l Z a0 hw [] (35 : Int32) cs h0 n0 Z0 S_COMPACT_STRINGS hcs (by decide)) hZ (hw _ (List.mem_of_getElem? (i := 9) rfl)) (hw _ (List.mem_of_getElem? (i := 8) rfl)) (by decide) (by decide)) (g := (mkF m 82 #[.val (.int na), .val (.int nb), .val (.int (35 : Int32)), .val (.int rr_101), .val (.int (46 : Int32)), .val (.int (1 : Int32)), .val (.int (1 : Int32))] [(.int (35 : Int32))])) rfl (by rw [hml]; rfl) (argsL := [(.int (35 : Int32))]) (rest := []) (lenOf pd_14 rfl) rfl (by show 2 * 0 + _ ≤ _; exact Nat.le_of_eq rfl) (hb hby at_82) (fun _ _ => ⟨rfl, e_103, (by decide : 0 + 2 ≤ _), (by decide : 0 + 5 ≤ _)⟩)
          dsimp only [Pt.U, Pt.locs, Pt.cells, Pt.slots] at X_104 l_104 y_104 z_104 st_104 hQ_104
          obtain rfl : kc_104 = 2 := y_104
          obtain rfl : nc_104 = 5 := z_104
          obtain ⟨h_104, e_104⟩ : ∃ hh, T_104.heap = hh := ⟨_, rfl⟩
          rw [e_104] at hQ_104
          obtain ⟨b__104, d__104, kd__104, rfl, N_104q, K_104, p_104_0, p_104_1, p_104_2, p_104_3, p_104_4, p_104_5, p_104_6, p_104_7, p_104_8⟩ := hQ_104
          have N_104 : Fr n0 L_104 := by rw [l_104]; exact Fr.app N_103 N_104q
          refine GoS.st st_104 ?_
          have KK_104 : Keep h0 h_104 [] := (Keep.refl h0 []).trans K_104 all0
          have z_104q : n0 ≤ h_104.size := Nat.le_trans Z0 K_104.1
          have ns_104 : ∀ x ∈ ([] : List Addr), ∀ cell : Cell, h0[x]? = some cell → cell.vm.isStatics = false := all0
          have HE_104 := HE0.keep K_104 sf0
          have sz_104_0 : h0.size ≤ b__104 := Nat.le_trans (Keep.refl h0 []).1 p_104_0
          have sz_104_5 : h0.size ≤ d__104 := Nat.le_trans (Keep.refl h0 []).1 p_104_5
          show GoS p e below s _ _ _ _ _ T_104 (mkF m 85 #[.val (.int na), .val (.int nb), .val (.int (35 : Int32)), .val (.int rr_101), .val (.int (46 : Int32)), .val (.int (1 : Int32)), .val (.int (1 : Int32))] [(.ref b__104)])
          have W_105 := p_104_7
          rw [show ((35 : Int32)).toInt8.toInt32 = (35 : Int32) from by decide] at W_105
          have f_107 := (own_sta_keep S_COMPACT_STRINGS K_104 ns_104)
          have f_108 := (own_sta_keep S_SIOOBE_FORMATTER K_104 ns_104)
          obtain ⟨_, _, ⟨T_106, L_106, kc_106, nc_106⟩, -, X_106, sn_106, gg_106, ⟨Lc_106, hQ_106, l_106, y_106, z_106, CH_106⟩, st_106⟩ := callSS X_104 hx (y := (⟨"com/example/contextwire/contextwire/RequestId", "isValid", "(Ljava/lang/String;)Z"⟩ : MethodName)) hown (mvT hZ (hw _ (List.mem_of_getElem? (i := 32) rfl))) (mvT hZ (hw _ (List.mem_of_getElem? (i := 33) rfl))) (mvT hZ (hw _ (List.mem_of_getElem? (i := 4) rfl))) (mvT hZ (hw _ (List.mem_of_getElem? (i := 34) rfl))) (by decide) (backOfSH (s := s) (vm0 := s.vm) (W := 0) (rmVa35 l Z a0 hw [] b__104 cs d__104 kd__104 fm h_104 n0 z_104q f_107 hcs f_108 rf_fm p_104_2 p_104_4 p_104_3 W_105) hZ (hw _ (List.mem_of_getElem? (i := 34) rfl)) (hw _ (List.mem_of_getElem? (i := 4) rfl)) (by decide) (by decide) hEL HE_104.chv) (g := (mkF m 85 #[.val (.int na), .val (.int nb), .val (.int (35 : Int32)), .val (.int rr_101), .val (.int (46 : Int32)), .val (.int (1 : Int32)), .val (.int (1 : Int32))] [(.ref b__104)])) rfl (by rw [hml]; rfl) (argsL := [(.ref b__104)]) (rest := []) (lenOf pd_15 rfl) rfl (by show 2 * 0 + _ ≤ _; exact Nat.le_of_eq rfl) (hb hby at_85) (fun _ _ => ⟨rfl, e_104, (by decide : 2 + 2 ≤ _), (by decide : 5 + 36 ≤ _)⟩)
          dsimp only [Pt.U, Pt.locs, Pt.cells, Pt.slots] at X_106 l_106 y_106 z_106 st_106 hQ_106
          obtain rfl : kc_106 = 4 := y_106
          obtain rfl : nc_106 = 41 := z_106
          dsimp only [Pt.U, Pt.locs, Pt.cells, Pt.slots] at sn_106 gg_106 CH_106
          obtain ⟨X_106, HE_106, hZ, hown⟩ := OwnH.call HE_104 e_104 X_106 sn_106 gg_106 hZ hown CH_106
          obtain ⟨h_106, e_106⟩ : ∃ hh, T_106.heap = hh := ⟨_, rfl⟩
          rw [e_106] at hQ_106 HE_106 CH_106
          obtain ⟨rfl, N_106q, K_106⟩ := hQ_106
          have N_106 : Fr n0 L_106 := by rw [l_106]; exact Fr.app N_104 N_106q
          refine GoS.st (fun _ kk => st_106.trans kk) ?_
          have KK_106 : Keep h0 h_106 [] := KK_104.trans K_106 all0
          have z_106q : n0 ≤ h_106.size := Nat.le_trans z_104q K_106.1
          have ns_106 : ∀ x ∈ ([] : List Addr), ∀ cell : Cell, h_104[x]? = some cell → cell.vm.isStatics = false := all0
          show GoS p e below s _ _ _ _ _ T_106 (mkF m 88 #[.val (.int na), .val (.int nb), .val (.int (35 : Int32)), .val (.int rr_101), .val (.int (46 : Int32)), .val (.int (1 : Int32)), .val (.int (1 : Int32))] [(.int (1 : Int32))])
          refine GoS.st (fun _ => XS.ifYes X_106.here hx rfl (pc0 := 88) (pc' := 93) rfl (hb hby at_88) rfl ((if0 _ _).trans (feq (by decide : ¬ ((1 : Int32) = (0 : Int32)))).2) (by decide) (by decide)) ?_
          show GoS p e below s _ _ _ _ _ T_106 (mkF m 93 #[.val (.int na), .val (.int nb), .val (.int (35 : Int32)), .val (.int rr_101), .val (.int (46 : Int32)), .val (.int (1 : Int32)), .val (.int (1 : Int32))] [])
          refine GoS.st (fun _ => XS.iload X_106.here hx rfl (hb hby at_93) rfl) ?_
          show GoS p e below s _ _ _ _ _ T_106 (mkF m 95 #[.val (.int na), .val (.int nb), .val (.int (35 : Int32)), .val (.int rr_101), .val (.int (46 : Int32)), .val (.int (1 : Int32)), .val (.int (1 : Int32))] [(.int (46 : Int32))])
          obtain ⟨_, _, ⟨T_109, L_109, kc_109, nc_109⟩, -, X_109, ⟨Lc_109, hQ_109, l_109, y_109, z_109⟩, st_109⟩ := Jvm.LawKit.callS X_106 hx (y := (⟨"com/example/contextwire/contextwire/RequestId", "isNodeEnd", "(C)Z"⟩ : MethodName)) hown (mvT hZ (hw _ (List.mem_of_getElem? (i := 2) rfl))) (mvT hZ (hw _ (List.mem_of_getElem? (i := 3) rfl))) (mvT hZ (hw _ (List.mem_of_getElem? (i := 4) rfl))) (mvT hZ (hw _ (List.mem_of_getElem? (i := 5) rfl))) (by decide) (backOf (W := 0) (rmNe46 l Z a0 hw []  h_106 n0 z_106q ) hZ (hw _ (List.mem_of_getElem? (i := 5) rfl)) (hw _ (List.mem_of_getElem? (i := 4) rfl)) (by decide) (by decide)) (g := (mkF m 95 #[.val (.int na), .val (.int nb), .val (.int (35 : Int32)), .val (.int rr_101), .val (.int (46 : Int32)), .val (.int (1 : Int32)), .val (.int (1 : Int32))] [(.int (46 : Int32))])) rfl (by rw [hml]; rfl) (argsL := [(.int (46 : Int32))]) (rest := []) (lenOf pd_0 rfl) rfl (by show 2 * 0 + _ ≤ _; exact Nat.le_of_eq rfl) (hb hby at_95) (fun _ _ => ⟨rfl, e_106, (by decide : 4 + 0 ≤ _), (by decide : 41 + 0 ≤ _)⟩)
          dsimp only [Pt.U, Pt.locs, Pt.cells, Pt.slots] at X_109 l_109 y_109 z_109 st_109 hQ_109
          obtain rfl : kc_109 = 4 := y_109
          obtain rfl : nc_109 = 41 := z_109
          obtain ⟨h_109, e_109⟩ : ∃ hh, T_109.heap = hh := ⟨_, rfl⟩
          rw [e_109] at hQ_109
          obtain ⟨rfl, N_109q, sm_109⟩ := hQ_109
          have N_109 : Fr n0 L_109 := by rw [l_109]; exact Fr.app N_106 N_109q
          refine GoS.st st_109 ?_
          rw [sm_109] at e_109
          show GoS p e below s _ _ _ _ _ T_109 (mkF m 98 #[.val (.int na), .val (.int nb), .val (.int (35 : Int32)), .val (.int rr_101), .val (.int (46 : Int32)), .val (.int (1 : Int32)), .val (.int (1 : Int32))] [(.int (1 : Int32))])
          refine GoS.st (fun _ => XS.ifYes X_109.here hx rfl (pc0 := 98) (pc' := 103) rfl (hb hby at_98) rfl ((if0 _ _).trans (feq (by decide : ¬ ((1 : Int32) = (0 : Int32)))).2) (by decide) (by decide)) ?_
          show GoS p e below s _ _ _ _ _ T_109 (mkF m 103 #[.val (.int na), .val (.int nb), .val (.int (35 : Int32)), .val (.int rr_101), .val (.int (46 : Int32)), .val (.int (1 : Int32)), .val (.int (1 : Int32))] [])
          refine GoS.st (fun _ => XS.iload X_109.here hx rfl (hb hby at_103) rfl) ?_
          show GoS p e below s _ _ _ _ _ T_109 (mkF m 105 #[.val (.int na), .val (.int nb), .val (.int (35 : Int32)), .val (.int rr_101), .val (.int (46 : Int32)), .val (.int (1 : Int32)), .val (.int (1 : Int32))] [(.int (46 : Int32))])
          have f_111 := (own_sta_keep f_107 K_106 ns_106)
          obtain ⟨_, _, ⟨T_110, L_110, kc_110, nc_110⟩, -, X_110, ⟨Lc_110, hQ_110, l_110, y_110, z_110⟩, st_110⟩ := Jvm.LawKit.callS X_109 hx (y := (⟨"java/lang/String", "valueOf", "(C)Ljava/lang/String;"⟩ : MethodName)) hown (mvT hZ (hw _ (List.mem_of_getElem? (i := 6) rfl))) (mvT hZ (hw _ (List.mem_of_getElem? (i := 7) rfl))) (mvT hZ (hw _ (List.mem_of_getElem? (i := 8) rfl))) (mvT hZ (hw _ (List.mem_of_getElem? (i := 9) rfl))) (by decide) (backOf (W := 0) (rmVo l Z a0 hw [] (46 : Int32) cs h_106 n0 z_106q f_111 hcs (by decide)) hZ (hw _ (List.mem_of_getElem? (i := 9) rfl)) (hw _ (List.mem_of_getElem? (i := 8) rfl)) (by decide) (by decide)) (g := (mkF m 105 #[.val (.int na), .val (.int nb), .val (.int (35 : Int32)), .val (.int rr_101), .val (.int (46 : Int32)), .val (.int (1 : Int32)), .val (.int (1 : Int32))] [(.int (46 : Int32))])) rfl (by rw [hml]; rfl) (argsL := [(.int (46 : Int32))]) (rest := []) (lenOf pd_14 rfl) rfl (by show 2 * 0 + _ ≤ _; exact Nat.le_of_eq rfl) (hb hby at_105) (fun _ _ => ⟨rfl, e_109, (by decide : 4 + 2 ≤ _), (by decide : 41 + 5 ≤ _)⟩)
          dsimp only [Pt.U, Pt.locs, Pt.cells, Pt.slots] at X_110 l_110 y_110 z_110 st_110 hQ_110
          obtain rfl : kc_110 = 6 := y_110
          obtain rfl : nc_110 = 46 := z_110
          obtain ⟨h_110, e_110⟩ : ∃ hh, T_110.heap = hh := ⟨_, rfl⟩
          rw [e_110] at hQ_110
          obtain ⟨b__110, d__110, kd__110, rfl, N_110q, K_110, p_110_0, p_110_1, p_110_2, p_110_3, p_110_4, p_110_5, p_110_6, p_110_7, p_110_8⟩ := hQ_110
          have N_110 : Fr n0 L_110 := by rw [l_110]; exact Fr.app N_109 N_110q
          refine GoS.st st_110 ?_
          have f_112 := (p_104_2.keep K_106)
          have ne_b__104_b__110 : b__104 ≠ b__110 := Nat.ne_of_lt (Nat.lt_of_lt_of_le f_112.lt p_110_0)
          have f_113 := (W_105.keep K_106 nin0)
          have ne_d__104_b__110 : d__104 ≠ b__110 := Nat.ne_of_lt (Nat.lt_of_lt_of_le f_113.lt p_110_0)
          have ne_b__104_d__110 : b__104 ≠ d__110 := Nat.ne_of_lt (Nat.lt_of_lt_of_le f_112.lt p_110_5)
          have ne_d__104_d__110 : d__104 ≠ d__110 := Nat.ne_of_lt (Nat.lt_of_lt_of_le f_113.lt p_110_5)
          have KK_110 : Keep h0 h_110 [] := KK_106.trans K_110 all0
          have z_110q : n0 ≤ h_110.size := Nat.le_trans z_106q K_110.1
          have ns_110 : ∀ x ∈ ([] : List Addr), ∀ cell : Cell, h_106[x]? = some cell → cell.vm.isStatics = false := all0
          have HE_110 := HE_106.keep K_110 sf0
          have sz_110_0 : h0.size ≤ b__110 := Nat.le_trans KK_106.1 p_110_0
          have sz_110_5 : h0.size ≤ d__110 := Nat.le_trans KK_106.1 p_110_5
          show GoS p e below s _ _ _ _ _ T_110 (mkF m 108 #[.val (.int na), .val (.int nb), .val (.int (35 : Int32)), .val (.int rr_101), .val (.int (46 : Int32)), .val (.int (1 : Int32)), .val (.int (1 : Int32))] [(.ref b__110)])
          have W_114 := p_110_7
          rw [show ((46 : Int32)).toInt8.toInt32 = (46 : Int32) from by decide] at W_114
          have f_116 := (own_sta_keep f_111 K_110 ns_110)
          have f_117 := (own_sta_keep (own_sta_keep f_108 K_106 ns_106) K_110 ns_110)
          obtain ⟨_, _, ⟨T_115, L_115, kc_115, nc_115⟩, -, X_115, sn_115, gg_115, ⟨Lc_115, hQ_115, l_115, y_115, z_115, CH_115⟩, st_115⟩ := callSS X_110 hx (y := (⟨"com/example/contextwire/contextwire/RequestId", "isValid", "(Ljava/lang/String;)Z"⟩ : MethodName)) hown (mvT hZ (hw _ (List.mem_of_getElem? (i := 32) rfl))) (mvT hZ (hw _ (List.mem_of_getElem? (i := 33) rfl))) (mvT hZ (hw _ (List.mem_of_getElem? (i := 4) rfl))) (mvT hZ (hw _ (List.mem_of_getElem? (i := 34) rfl))) (by decide) (backOfSH (s := s) (vm0 := T_106.vm) (W := 0) (rmVa46 l Z a0 hw [] b__110 cs d__110 kd__110 fm h_110 n0 z_110q f_116 hcs f_117 rf_fm p_110_2 p_110_4 p_110_3 W_114) hZ (hw _ (List.mem_of_getElem? (i := 34) rfl)) (hw _ (List.mem_of_getElem? (i := 4) rfl)) (by decide) (by decide) hEL HE_110.chv) (g := (mkF m 108 #[.val (.int na), .val (.int nb), .val (.int (35 : Int32)), .val (.int rr_101), .val (.int (46 : Int32)), .val (.int (1 : Int32)), .val (.int (1 : Int32))] [(.ref b__110)])) rfl (by rw [hml]; rfl) (argsL := [(.ref b__110)]) (rest := []) (lenOf pd_15 rfl) rfl (by show 2 * 0 + _ ≤ _; exact Nat.le_of_eq rfl) (hb hby at_108) (fun _ _ => ⟨rfl, e_110, (by decide : 6 + 2 ≤ _), (by decide : 46 + 36 ≤ _)⟩)
          dsimp only [Pt.U, Pt.locs, Pt.cells, Pt.slots] at X_115 l_115 y_115 z_115 st_115 hQ_115
          obtain rfl : kc_115 = 8 := y_115
          obtain rfl : nc_115 = 82 := z_115
          dsimp only [Pt.U, Pt.locs, Pt.cells, Pt.slots] at sn_115 gg_115 CH_115
          obtain ⟨X_115, HE_115, hZ, hown⟩ := OwnH.call HE_110 e_110 X_115 sn_115 gg_115 hZ hown CH_115
          obtain ⟨h_115, e_115⟩ : ∃ hh, T_115.heap = hh := ⟨_, rfl⟩
          rw [e_115] at hQ_115 HE_115 CH_115
          obtain ⟨rfl, N_115q, K_115⟩ := hQ_115
          have N_115 : Fr n0 L_115 := by rw [l_115]; exact Fr.app N_110 N_115q
          refine GoS.st (fun _ kk => st_115.trans kk) ?_
          have KK_115 : Keep h0 h_115 [] := KK_110.trans K_115 all0
          have z_115q : n0 ≤ h_115.size := Nat.le_trans z_110q K_115.1
          have ns_115 : ∀ x ∈ ([] : List Addr), ∀ cell : Cell, h_110[x]? = some cell → cell.vm.isStatics = false := all0
          show GoS p e below s _ _ _ _ _ T_115 (mkF m 111 #[.val (.int na), .val (.int nb), .val (.int (35 : Int32)), .val (.int rr_101), .val (.int (46 : Int32)), .val (.int (1 : Int32)), .val (.int (1 : Int32))] [(.int (1 : Int32))])
          exact GoS.retZ hZ hEL HE_115 e_115 X_115 hx hlk Bd.returns (hb hby at_111) rfl (by rw [e_115]; exact ⟨rfl, N_115⟩) (by decide) (by decide)
        · refine GoS.st (fun _ => XS.ifYes X0.here hx rfl (pc0 := 14) (pc' := 22) rfl (hb hby at_14) rfl ((if0 _ _).trans (feq hc_102).2) (by decide) (by decide)) ?_
          show GoS p e below s _ _ _ _ _ s₁ (mkF m 22 #[.val (.int na), .val (.int nb), .val (.int (35 : Int32)), .val (.int rr_101), .unset, .unset, .unset] [])
          refine GoS.st (fun _ => XS.iloadN X0.here hx rfl (hb hby at_22) rfl) ?_
          show GoS p e below s _ _ _ _ _ s₁ (mkF m 23 #[.val (.int na), .val (.int nb), .val (.int (35 : Int32)), .val (.int rr_101), .unset, .unset, .unset] [(.int rr_101)])
          refine GoS.st (fun _ => XS.iconst X0.here hx rfl (hb hby at_23)) ?_
          show GoS p e below s _ _ _ _ _ s₁ (mkF m 24 #[.val (.int na), .val (.int nb), .val (.int (35 : Int32)), .val (.int rr_101), .unset, .unset, .unset] [(.int (1 : Int32)), (.int rr_101)])
          by_cases hc_118 : rr_101 = (1 : Int32)
          · refine GoS.st (fun _ => XS.icmpNo X0.here hx rfl (hb hby at_24) rfl (teq hc_118).2) ?_
            show GoS p e below s _ _ _ _ _ s₁ (mkF m 27 #[.val (.int na), .val (.int nb), .val (.int (35 : Int32)), .val (.int rr_101), .unset, .unset, .unset] [])
            refine GoS.st (fun _ => XS.bipush X0.here hx rfl (hb hby at_27)) ?_
            show GoS p e below s _ _ _ _ _ s₁ (mkF m 29 #[.val (.int na), .val (.int nb), .val (.int (35 : Int32)), .val (.int rr_101), .unset, .unset, .unset] [(.int (95 : Int32))])
            refine GoS.st (fun _ => XS.goto X0.here hx rfl (pc0 := 29) (pc' := 34) rfl (hb hby at_29) (by decide) (by decide)) ?_
            show GoS p e below s _ _ _ _ _ s₁ (mkF m 34 #[.val (.int na), .val (.int nb), .val (.int (35 : Int32)), .val (.int rr_101), .unset, .unset, .unset] [(.int (95 : Int32))])
            refine GoS.st (fun _ => XS.istore X0.here hx rfl (hb hby at_34) rfl (l' := #[.val (.int na), .val (.int nb), .val (.int (35 : Int32)), .val (.int rr_101), .val (.int (95 : Int32)), .unset, .unset]) rfl) ?_
            show GoS p e below s _ _ _ _ _ s₁ (mkF m 36 #[.val (.int na), .val (.int nb), .val (.int (35 : Int32)), .val (.int rr_101), .val (.int (95 : Int32)), .unset, .unset] [])
            refine GoS.st (fun _ => XS.iloadN X0.here hx rfl (hb hby at_36) rfl) ?_
            show GoS p e below s _ _ _ _ _ s₁ (mkF m 37 #[.val (.int na), .val (.int nb), .val (.int (35 : Int32)), .val (.int rr_101), .val (.int (95 : Int32)), .unset, .unset] [(.int (35 : Int32))])
            obtain ⟨_, _, ⟨T_119, L_119, kc_119, nc_119⟩, -, X_119, ⟨Lc_119, hQ_119, l_119, y_119, z_119⟩, st_119⟩ := Jvm.LawKit.callS X0 hx (y := (⟨"com/example/contextwire/contextwire/RequestId", "isNodeEnd", "(C)Z"⟩ : MethodName)) hown (mvT hZ (hw _ (List.mem_of_getElem? (i := 2) rfl))) (mvT hZ (hw _ (List.mem_of_getElem? (i := 3) rfl))) (mvT hZ (hw _ (List.mem_of_getElem? (i := 4) rfl))) (mvT hZ (hw _ (List.mem_of_getElem? (i := 5) rfl))) (by decide) (backOf (W := 0) (rmNe35 l Z a0 hw []  h0 n0 Z0 ) hZ (hw _ (List.mem_of_getElem? (i := 5) rfl)) (hw _ (List.mem_of_getElem? (i := 4) rfl)) (by decide) (by decide)) (g := (mkF m 37 #[.val (.int na), .val (.int nb), .val (.int (35 : Int32)), .val (.int rr_101), .val (.int (95 : Int32)), .unset, .unset] [(.int (35 : Int32))])) rfl (by rw [hml]; rfl) (argsL := [(.int (35 : Int32))]) (rest := []) (lenOf pd_0 rfl) rfl (by show 2 * 0 + _ ≤ _; exact Nat.le_of_eq rfl) (hb hby at_37) (fun _ _ => ⟨rfl, e0, (by decide : 0 + 0 ≤ _), (by decide : 0 + 0 ≤ _)⟩)
            dsimp only [Pt.U, Pt.locs, Pt.cells, Pt.slots] at X_119 l_119 y_119 z_119 st_119 hQ_119
            obtain rfl : kc_119 = 0 := y_119
            obtain rfl : nc_119 = 0 := z_119
            obtain ⟨h_119, e_119⟩ : ∃ hh, T_119.heap = hh := ⟨_, rfl⟩
            rw [e_119] at hQ_119
            obtain ⟨rfl, N_119q, sm_119⟩ := hQ_119
            have N_119 : Fr n0 L_119 := by rw [l_119]; exact Fr.app N0 N_119q
            refine GoS.st st_119 ?_
            rw [sm_119] at e_119
            show GoS p e below s _ _ _ _ _ T_119 (mkF m 40 #[.val (.int na), .val (.int nb), .val (.int (35 : Int32)), .val (.int rr_101), .val (.int (95 : Int32)), .unset, .unset] [(.int (1 : Int32))])
            refine GoS.st (fun _ => XS.istore X_119.here hx rfl (hb hby at_40) rfl (l' := #[.val (.int na), .val (.int nb), .val (.int (35 : Int32)), .val (.int rr_101), .val (.int (95 : Int32)), .val (.int (1 : Int32)), .unset]) rfl) ?_
            show GoS p e below s _ _ _ _ _ T_119 (mkF m 42 #[.val (.int na), .val (.int nb), .val (.int (35 : Int32)), .val (.int rr_101), .val (.int (95 : Int32)), .val (.int (1 : Int32)), .unset] [])
            refine GoS.st (fun _ => XS.iloadN X_119.here hx rfl (hb hby at_42) rfl) ?_
            show GoS p e below s _ _ _ _ _ T_119 (mkF m 43 #[.val (.int na), .val (.int nb), .val (.int (35 : Int32)), .val (.int rr_101), .val (.int (95 : Int32)), .val (.int (1 : Int32)), .unset] [(.int (35 : Int32))])
            refine GoS.st (fun _ => XS.bipush X_119.here hx rfl (hb hby at_43)) ?_
            show GoS p e below s _ _ _ _ _ T_119 (mkF m 45 #[.val (.int na), .val (.int nb), .val (.int (35 : Int32)), .val (.int rr_101), .val (.int (95 : Int32)), .val (.int (1 : Int32)), .unset] [(.int (46 : Int32)), (.int (35 : Int32))])
            refine GoS.st (fun _ => XS.icmpNo X_119.here hx rfl (hb hby at_45) rfl (feq (by decide : ¬ ((35 : Int32) = (46 : Int32)))).1) ?_
            show GoS p e below s _ _ _ _ _ T_119 (mkF m 48 #[.val (.int na), .val (.int nb), .val (.int (35 : Int32)), .val (.int rr_101), .val (.int (95 : Int32)), .val (.int (1 : Int32)), .unset] [])
            refine GoS.st (fun _ => XS.iloadN X_119.here hx rfl (hb hby at_48) rfl) ?_
            show GoS p e below s _ _ _ _ _ T_119 (mkF m 49 #[.val (.int na), .val (.int nb), .val (.int (35 : Int32)), .val (.int rr_101), .val (.int (95 : Int32)), .val (.int (1 : Int32)), .unset] [(.int (35 : Int32))])
            refine GoS.st (fun _ => XS.bipush X_119.here hx rfl (hb hby at_49)) ?_
            show GoS p e below s _ _ _ _ _ T_119 (mkF m 51 #[.val (.int na), .val (.int nb), .val (.int (35 : Int32)), .val (.int rr_101), .val (.int (95 : Int32)), .val (.int (1 : Int32)), .unset] [(.int (95 : Int32)), (.int (35 : Int32))])
            refine GoS.st (fun _ => XS.icmpNo X_119.here hx rfl (hb hby at_51) rfl (feq (by decide : ¬ ((35 : Int32) = (95 : Int32)))).1) ?_
            show GoS p e below s _ _ _ _ _ T_119 (mkF m 54 #[.val (.int na), .val (.int nb), .val (.int (35 : Int32)), .val (.int rr_101), .val (.int (95 : Int32)), .val (.int (1 : Int32)), .unset] [])
            refine GoS.st (fun _ => XS.iloadN X_119.here hx rfl (hb hby at_54) rfl) ?_
            show GoS p e below s _ _ _ _ _ T_119 (mkF m 55 #[.val (.int na), .val (.int nb), .val (.int (35 : Int32)), .val (.int rr_101), .val (.int (95 : Int32)), .val (.int (1 : Int32)), .unset] [(.int (35 : Int32))])
            refine GoS.st (fun _ => XS.bipush X_119.here hx rfl (hb hby at_55)) ?_
            show GoS p e below s _ _ _ _ _ T_119 (mkF m 57 #[.val (.int na), .val (.int nb), .val (.int (35 : Int32)), .val (.int rr_101), .val (.int (95 : Int32)), .val (.int (1 : Int32)), .unset] [(.int (35 : Int32)), (.int (35 : Int32))])
            refine GoS.st (fun _ => XS.icmpNo X_119.here hx rfl (hb hby at_57) rfl (teq (by decide : (35 : Int32) = (35 : Int32))).2) ?_
            show GoS p e below s _ _ _ _ _ T_119 (mkF m 60 #[.val (.int na), .val (.int nb), .val (.int (35 : Int32)), .val (.int rr_101), .val (.int (95 : Int32)), .val (.int (1 : Int32)), .unset] [])
            refine GoS.st (fun _ => XS.iconst X_119.here hx rfl (hb hby at_60)) ?_
            show GoS p e below s _ _ _ _ _ T_119 (mkF m 61 #[.val (.int na), .val (.int nb), .val (.int (35 : Int32)), .val (.int rr_101), .val (.int (95 : Int32)), .val (.int (1 : Int32)), .unset] [(.int (1 : Int32))])
            refine GoS.st (fun _ => XS.goto X_119.here hx rfl (pc0 := 61) (pc' := 65) rfl (hb hby at_61) (by decide) (by decide)) ?_
            show GoS p e below s _ _ _ _ _ T_119 (mkF m 65 #[.val (.int na), .val (.int nb), .val (.int (35 : Int32)), .val (.int rr_101), .val (.int (95 : Int32)), .val (.int (1 : Int32)), .unset] [(.int (1 : Int32))])
            refine GoS.st (fun _ => XS.istore X_119.here hx rfl (hb hby at_65) rfl (l' := #[.val (.int na), .val (.int nb), .val (.int (35 : Int32)), .val (.int rr_101), .val (.int (95 : Int32)), .val (.int (1 : Int32)), .val (.int (1 : Int32))]) rfl) ?_
            show GoS p e below s _ _ _ _ _ T_119 (mkF m 67 #[.val (.int na), .val (.int nb), .val (.int (35 : Int32)), .val (.int rr_101), .val (.int (95 : Int32)), .val (.int (1 : Int32)), .val (.int (1 : Int32))] [])
            refine GoS.st (fun _ => XS.iload X_119.here hx rfl (hb hby at_67) rfl) ?_
            show GoS p e below s _ _ _ _ _ T_119 (mkF m 69 #[.val (.int na), .val (.int nb), .val (.int (35 : Int32)), .val (.int rr_101), .val (.int (95 : Int32)), .val (.int (1 : Int32)), .val (.int (1 : Int32))] [(.int (1 : Int32))])
            refine GoS.st (fun _ => XS.iload X_119.here hx rfl (hb hby at_69) rfl) ?_
            show GoS p e below s _ _ _ _ _ T_119 (mkF m 71 #[.val (.int na), .val (.int nb), .val (.int (35 : Int32)), .val (.int rr_101), .val (.int (95 : Int32)), .val (.int (1 : Int32)), .val (.int (1 : Int32))] [(.int (1 : Int32)), (.int (1 : Int32))])
            refine GoS.st (fun _ => XS.icmpYes X_119.here hx rfl (pc0 := 71) (pc' := 76) rfl (hb hby at_71) rfl (teq (by decide : (1 : Int32) = (1 : Int32))).1 (by decide) (by decide)) ?_
            show GoS p e below s _ _ _ _ _ T_119 (mkF m 76 #[.val (.int na), .val (.int nb), .val (.int (35 : Int32)), .val (.int rr_101), .val (.int (95 : Int32)), .val (.int (1 : Int32)), .val (.int (1 : Int32))] [])
            refine GoS.st (fun _ => XS.iload X_119.here hx rfl (hb hby at_76) rfl) ?_
            show GoS p e below s _ _ _ _ _ T_119 (mkF m 78 #[.val (.int na), .val (.int nb), .val (.int (35 : Int32)), .val (.int rr_101), .val (.int (95 : Int32)), .val (.int (1 : Int32)), .val (.int (1 : Int32))] [(.int (1 : Int32))])
            refine GoS.st (fun _ => XS.ifNo X_119.here hx rfl (hb hby at_78) rfl ((if0 _ _).trans (feq (by decide : ¬ ((1 : Int32) = (0 : Int32)))).1)) ?_
            show GoS p e below s _ _ _ _ _ T_119 (mkF m 81 #[.val (.int na), .val (.int nb), .val (.int (35 : Int32)), .val (.int rr_101), .val (.int (95 : Int32)), .val (.int (1 : Int32)), .val (.int (1 : Int32))] [])
            refine GoS.st (fun _ => XS.iloadN X_119.here hx rfl (hb hby at_81) rfl) ?_
            show GoS p e below s _ _ _ _ _ T_119 (mkF m 82 #[.val (.int na), .val (.int nb), .val (.int (35 : Int32)), .val (.int rr_101), .val (.int (95 : Int32)), .val (.int (1 : Int32)), .val (.int (1 : Int32))] [(.int (35 : Int32))])
            obtain ⟨_, _, ⟨T_120, L_120, kc_120, nc_120⟩, -, X_120, ⟨Lc_120, hQ_120, l_120, y_120, z_120⟩, st_120⟩ := Jvm.LawKit.callS X_119 hx (y := (⟨"java/lang/String", "valueOf", "(C)Ljava/lang/String;"⟩ : MethodName)) hown (mvT hZ (hw _ (List.mem_of_getElem? (i := 6) rfl))) (mvT hZ (hw _ (List.mem_of_getElem? (i := 7) rfl))) (mvT hZ (hw _ (List.mem_of_getElem? (i := 8) rfl))) (mvT hZ (hw _ (List.mem_of_getElem? (i := 9) rfl))) (by decide) (backOf (W := 0) (rmVo l Z a0 hw [] (35 : Int32) cs h0 n0 Z0 S_COMPACT_STRINGS hcs (by decide)) hZ (hw _ (List.mem_of_getElem? (i := 9) rfl)) (hw _ (List.mem_of_getElem? (i := 8) rfl)) (by decide) (by decide)) (g := (mkF m 82 #[.val (.int na), .val (.int nb), .val (.int (35 : Int32)), .val (.int rr_101), .val (.int (95 : Int32)), .val (.int (1 : Int32)), .val (.int (1 : Int32))] [(.int (35 : Int32))])) rfl (by rw [hml]; rfl) (argsL := [(.int (35 : Int32))]) (rest := []) (lenOf pd_14 rfl) rfl (by show 2 * 0 + _ ≤ _; exact Nat.le_of_eq rfl) (hb hby at_82) (fun _ _ => ⟨rfl, e_119, (by decide : 0 + 2 ≤ _), (by decide : 0 + 5 ≤ _)⟩)
            dsimp only [Pt.U, Pt.locs, Pt.cells, Pt.slots] at X_120 l_120 y_120 z_120 st_120 hQ_120
            obtain rfl : kc_120 = 2 := y_120
            obtain rfl : nc_120 = 5 := z_120
            obtain ⟨h_120, e_120⟩ : ∃ hh, T_120.heap = hh := ⟨_, rfl⟩
            rw [e_120] at hQ_120
            obtain ⟨b__120, d__120, kd__120, rfl, N_120q, K_120, p_120_0, p_120_1, p_120_2, p_120_3, p_120_4, p_120_5, p_120_6, p_120_7, p_120_8⟩ := hQ_120
            have N_120 : Fr n0 L_120 := by rw [l_120]; exact Fr.app N_119 N_120q
            refine GoS.st st_120 ?_
            have KK_120 : Keep h0 h_120 [] := (Keep.refl h0 []).trans K_120 all0
            have z_120q : n0 ≤ h_120.size := Nat.le_trans Z0 K_120.1
            have ns_120 : ∀ x ∈ ([] : List Addr), ∀ cell : Cell, h0[x]? = some cell → cell.vm.isStatics = false := all0
            have HE_120 := HE0.keep K_120 sf0
            have sz_120_0 : h0.size ≤ b__120 := Nat.le_trans (Keep.refl h0 []).1 p_120_0
            have sz_120_5 : h0.size ≤ d__120 := Nat.le_trans (Keep.refl h0 []).1 p_120_5
            show GoS p e below s _ _ _ _ _ T_120 (mkF m 85 #[.val (.int na), .val (.int nb), .val (.int (35 : Int32)), .val (.int rr_101), .val (.int (95 : Int32)), .val (.int (1 : Int32)), .val (.int (1 : Int32))] [(.ref b__120)])
            have W_121 := p_120_7
            rw [show ((35 : Int32)).toInt8.toInt32 = (35 : Int32) from by decide] at W_121
            have f_123 := (own_sta_keep S_COMPACT_STRINGS K_120 ns_120)
            have f_124 := (own_sta_keep S_SIOOBE_FORMATTER K_120 ns_120)
            obtain ⟨_, _, ⟨T_122, L_122, kc_122, nc_122⟩, -, X_122, sn_122, gg_122, ⟨Lc_122, hQ_122, l_122, y_122, z_122, CH_122⟩, st_122⟩ := callSS X_120 hx (y := (⟨"com/example/contextwire/contextwire/RequestId", "isValid", "(Ljava/lang/String;)Z"⟩ : MethodName)) hown (mvT hZ (hw _ (List.mem_of_getElem? (i := 32) rfl))) (mvT hZ (hw _ (List.mem_of_getElem? (i := 33) rfl))) (mvT hZ (hw _ (List.mem_of_getElem? (i := 4) rfl))) (mvT hZ (hw _ (List.mem_of_getElem? (i := 34) rfl))) (by decide) (backOfSH (s := s) (vm0 := s.vm) (W := 0) (rmVa35 l Z a0 hw [] b__120 cs d__120 kd__120 fm h_120 n0 z_120q f_123 hcs f_124 rf_fm p_120_2 p_120_4 p_120_3 W_121) hZ (hw _ (List.mem_of_getElem? (i := 34) rfl)) (hw _ (List.mem_of_getElem? (i := 4) rfl)) (by decide) (by decide) hEL HE_120.chv) (g := (mkF m 85 #[.val (.int na), .val (.int nb), .val (.int (35 : Int32)), .val (.int rr_101), .val (.int (95 : Int32)), .val (.int (1 : Int32)), .val (.int (1 : Int32))] [(.ref b__120)])) rfl (by rw [hml]; rfl) (argsL := [(.ref b__120)]) (rest := []) (lenOf pd_15 rfl) rfl (by show 2 * 0 + _ ≤ _; exact Nat.le_of_eq rfl) (hb hby at_85) (fun _ _ => ⟨rfl, e_120, (by decide : 2 + 2 ≤ _), (by decide : 5 + 36 ≤ _)⟩)
            dsimp only [Pt.U, Pt.locs, Pt.cells, Pt.slots] at X_122 l_122 y_122 z_122 st_122 hQ_122
            obtain rfl : kc_122 = 4 := y_122
            obtain rfl : nc_122 = 41 := z_122
            dsimp only [Pt.U, Pt.locs, Pt.cells, Pt.slots] at sn_122 gg_122 CH_122
            obtain ⟨X_122, HE_122, hZ, hown⟩ := OwnH.call HE_120 e_120 X_122 sn_122 gg_122 hZ hown CH_122
            obtain ⟨h_122, e_122⟩ : ∃ hh, T_122.heap = hh := ⟨_, rfl⟩
            rw [e_122] at hQ_122 HE_122 CH_122
            obtain ⟨rfl, N_122q, K_122⟩ := hQ_122
            have N_122 : Fr n0 L_122 := by rw [l_122]; exact Fr.app N_120 N_122q
            refine GoS.st (fun _ kk => st_122.trans kk) ?_
            have KK_122 : Keep h0 h_122 [] := KK_120.trans K_122 all0
            have z_122q : n0 ≤ h_122.size := Nat.le_trans z_120q K_122.1
            have ns_122 : ∀ x ∈ ([] : List Addr), ∀ cell : Cell, h_120[x]? = some cell → cell.vm.isStatics = false := all0
            show GoS p e below s _ _ _ _ _ T_122 (mkF m 88 #[.val (.int na), .val (.int nb), .val (.int (35 : Int32)), .val (.int rr_101), .val (.int (95 : Int32)), .val (.int (1 : Int32)), .val (.int (1 : Int32))] [(.int (1 : Int32))])
            refine GoS.st (fun _ => XS.ifYes X_122.here hx rfl (pc0 := 88) (pc' := 93) rfl (hb hby at_88) rfl ((if0 _ _).trans (feq (by decide : ¬ ((1 : Int32) = (0 : Int32)))).2) (by decide) (by decide)) ?_
            show GoS p e below s _ _ _ _ _ T_122 (mkF m 93 #[.val (.int na), .val (.int nb), .val (.int (35 : Int32)), .val (.int rr_101), .val (.int (95 : Int32)), .val (.int (1 : Int32)), .val (.int (1 : Int32))] [])
            refine GoS.st (fun _ => XS.iload X_122.here hx rfl (hb hby at_93) rfl) ?_
            show GoS p e below s _ _ _ _ _ T_122 (mkF m 95 #[.val (.int na), .val (.int nb), .val (.int (35 : Int32)), .val (.int rr_101), .val (.int (95 : Int32)), .val (.int (1 : Int32)), .val (.int (1 : Int32))] [(.int (95 : Int32))])
            obtain ⟨_, _, ⟨T_125, L_125, kc_125, nc_125⟩, -, X_125, ⟨Lc_125, hQ_125, l_125, y_125, z_125⟩, st_125⟩ := Jvm.LawKit.callS X_122 hx (y := (⟨"com/example/contextwire/contextwire/RequestId", "isNodeEnd", "(C)Z"⟩ : MethodName)) hown (mvT hZ (hw _ (List.mem_of_getElem? (i := 2) rfl))) (mvT hZ (hw _ (List.mem_of_getElem? (i := 3) rfl))) (mvT hZ (hw _ (List.mem_of_getElem? (i := 4) rfl))) (mvT hZ (hw _ (List.mem_of_getElem? (i := 5) rfl))) (by decide) (backOf (W := 0) (rmNe95 l Z a0 hw []  h_122 n0 z_122q ) hZ (hw _ (List.mem_of_getElem? (i := 5) rfl)) (hw _ (List.mem_of_getElem? (i := 4) rfl)) (by decide) (by decide)) (g := (mkF m 95 #[.val (.int na), .val (.int nb), .val (.int (35 : Int32)), .val (.int rr_101), .val (.int (95 : Int32)), .val (.int (1 : Int32)), .val (.int (1 : Int32))] [(.int (95 : Int32))])) rfl (by rw [hml]; rfl) (argsL := [(.int (95 : Int32))]) (rest := []) (lenOf pd_0 rfl) rfl (by show 2 * 0 + _ ≤ _; exact Nat.le_of_eq rfl) (hb hby at_95) (fun _ _ => ⟨rfl, e_122, (by decide : 4 + 0 ≤ _), (by decide : 41 + 0 ≤ _)⟩)
            dsimp only [Pt.U, Pt.locs, Pt.cells, Pt.slots] at X_125 l_125 y_125 z_125 st_125 hQ_125
            obtain rfl : kc_125 = 4 := y_125
            obtain rfl : nc_125 = 41 := z_125
            obtain ⟨h_125, e_125⟩ : ∃ hh, T_125.heap = hh := ⟨_, rfl⟩
            rw [e_125] at hQ_125
            obtain ⟨rfl, N_125q, sm_125⟩ := hQ_125
            have N_125 : Fr n0 L_125 := by rw [l_125]; exact Fr.app N_122 N_125q
            refine GoS.st st_125 ?_
            rw [sm_125] at e_125
            show GoS p e below s _ _ _ _ _ T_125 (mkF m 98 #[.val (.int na), .val (.int nb), .val (.int (35 : Int32)), .val (.int rr_101), .val (.int (95 : Int32)), .val (.int (1 : Int32)), .val (.int (1 : Int32))] [(.int (1 : Int32))])
            refine GoS.st (fun _ => XS.ifYes X_125.here hx rfl (pc0 := 98) (pc' := 103) rfl (hb hby at_98) rfl ((if0 _ _).trans (feq (by decide : ¬ ((1 : Int32) = (0 : Int32)))).2) (by decide) (by decide)) ?_
            show GoS p e below s _ _ _ _ _ T_125 (mkF m 103 #[.val (.int na), .val (.int nb), .val (.int (35 : Int32)), .val (.int rr_101), .val (.int (95 : Int32)), .val (.int (1 : Int32)), .val (.int (1 : Int32))] [])
            refine GoS.st (fun _ => XS.iload X_125.here hx rfl (hb hby at_103) rfl) ?_
            show GoS p e below s _ _ _ _ _ T_125 (mkF m 105 #[.val (.int na), .val (.int nb), .val (.int (35 : Int32)), .val (.int rr_101), .val (.int (95 : Int32)), .val (.int (1 : Int32)), .val (.int (1 : Int32))] [(.int (95 : Int32))])
            have f_127 := (own_sta_keep f_123 K_122 ns_122)
            obtain ⟨_, _, ⟨T_126, L_126, kc_126, nc_126⟩, -, X_126, ⟨Lc_126, hQ_126, l_126, y_126, z_126⟩, st_126⟩ := Jvm.LawKit.callS X_125 hx (y := (⟨"java/lang/String", "valueOf", "(C)Ljava/lang/String;"⟩ : MethodName)) hown (mvT hZ (hw _ (List.mem_of_getElem? (i := 6) rfl))) (mvT hZ (hw _ (List.mem_of_getElem? (i := 7) rfl))) (mvT hZ (hw _ (List.mem_of_getElem? (i := 8) rfl))) (mvT hZ (hw _ (List.mem_of_getElem? (i := 9) rfl))) (by decide) (backOf (W := 0) (rmVo l Z a0 hw [] (95 : Int32) cs h_122 n0 z_122q f_127 hcs (by decide)) hZ (hw _ (List.mem_of_getElem? (i := 9) rfl)) (hw _ (List.mem_of_getElem? (i := 8) rfl)) (by decide) (by decide)) (g := (mkF m 105 #[.val (.int na), .val (.int nb), .val (.int (35 : Int32)), .val (.int rr_101), .val (.int (95 : Int32)), .val (.int (1 : Int32)), .val (.int (1 : Int32))] [(.int (95 : Int32))])) rfl (by rw [hml]; rfl) (argsL := [(.int (95 : Int32))]) (rest := []) (lenOf pd_14 rfl) rfl (by show 2 * 0 + _ ≤ _; exact Nat.le_of_eq rfl) (hb hby at_105) (fun _ _ => ⟨rfl, e_125, (by decide : 4 + 2 ≤ _), (by decide : 41 + 5 ≤ _)⟩)
            dsimp only [Pt.U, Pt.locs, Pt.cells, Pt.slots] at X_126 l_126 y_126 z_126 st_126 hQ_126
            obtain rfl : kc_126 = 6 := y_126
            obtain rfl : nc_126 = 46 := z_126
            obtain ⟨h_126, e_126⟩ : ∃ hh, T_126.heap = hh := ⟨_, rfl⟩
            rw [e_126] at hQ_126
            obtain ⟨b__126, d__126, kd__126, rfl, N_126q, K_126, p_126_0, p_126_1, p_126_2, p_126_3, p_126_4, p_126_5, p_126_6, p_126_7, p_126_8⟩ := hQ_126
            have N_126 : Fr n0 L_126 := by rw [l_126]; exact Fr.app N_125 N_126q
            refine GoS.st st_126 ?_
            have f_128 := (p_120_2.keep K_122)
            have ne_b__120_b__126 : b__120 ≠ b__126 := Nat.ne_of_lt (Nat.lt_of_lt_of_le f_128.lt p_126_0)
            have f_129 := (W_121.keep K_122 nin0)
            have ne_d__120_b__126 : d__120 ≠ b__126 := Nat.ne_of_lt (Nat.lt_of_lt_of_le f_129.lt p_126_0)
            have ne_b__120_d__126 : b__120 ≠ d__126 := Nat.ne_of_lt (Nat.lt_of_lt_of_le f_128.lt p_126_5)
            have ne_d__120_d__126 : d__120 ≠ d__126 := Nat.ne_of_lt (Nat.lt_of_lt_of_le f_129.lt p_126_5)
            have KK_126 : Keep h0 h_126 [] := KK_122.trans K_126 all0
            have z_126q : n0 ≤ h_126.size := Nat.le_trans z_122q K_126.1
            have ns_126 : ∀ x ∈ ([] : List Addr), ∀ cell : Cell, h_122[x]? = some cell → cell.vm.isStatics = false := all0
            have HE_126 := HE_122.keep K_126 sf0
            have sz_126_0 : h0.size ≤ b__126 := Nat.le_trans KK_122.1 p_126_0
            have sz_126_5 : h0.size ≤ d__126 := Nat.le_trans KK_122.1 p_126_5
            show GoS p e below s _ _ _ _ _ T_126 (mkF m 108 #[.val (.int na), .val (.int nb), .val (.int (35 : Int32)), .val (.int rr_101), .val (.int (95 : Int32)), .val (.int (1 : Int32)), .val (.int (1 : Int32))] [(.ref b__126)])
            have W_130 := p_126_7
            rw [show ((95 : Int32)).toInt8.toInt32 = (95 : Int32) from by decide] at W_130
            have f_132 := (own_sta_keep f_127 K_126 ns_126)
            have f_133 := (own_sta_keep (own_sta_keep f_124 K_122 ns_122) K_126 ns_126)
            obtain ⟨_, _, ⟨T_131, L_131, kc_131, nc_131⟩, -, X_131, sn_131, gg_131, ⟨Lc_131, hQ_131, l_131, y_131, z_131, CH_131⟩, st_131⟩ := callSS X_126 hx (y := (⟨"com/example/contextwire/contextwire/RequestId", "isValid", "(Ljava/lang/String;)Z"⟩ : MethodName)) hown (mvT hZ (hw _ (List.mem_of_getElem? (i := 32) rfl))) (mvT hZ (hw _ (List.mem_of_getElem? (i := 33) rfl))) (mvT hZ (hw _ (List.mem_of_getElem? (i := 4) rfl))) (mvT hZ (hw _ (List.mem_of_getElem? (i := 34) rfl))) (by decide) (backOfSH (s := s) (vm0 := T_122.vm) (W := 0) (rmVa95 l Z a0 hw [] b__126 cs d__126 kd__126 fm h_126 n0 z_126q f_132 hcs f_133 rf_fm p_126_2 p_126_4 p_126_3 W_130) hZ (hw _ (List.mem_of_getElem? (i := 34) rfl)) (hw _ (List.mem_of_getElem? (i := 4) rfl)) (by decide) (by decide) hEL HE_126.chv) (g := (mkF m 108 #[.val (.int na), .val (.int nb), .val (.int (35 : Int32)), .val (.int rr_101), .val (.int (95 : Int32)), .val (.int (1 : Int32)), .val (.int (1 : Int32))] [(.ref b__126)])) rfl (by rw [hml]; rfl) (argsL := [(.ref b__126)]) (rest := []) (lenOf pd_15 rfl) rfl (by show 2 * 0 + _ ≤ _; exact Nat.le_of_eq rfl) (hb hby at_108) (fun _ _ => ⟨rfl, e_126, (by decide : 6 + 2 ≤ _), (by decide : 46 + 36 ≤ _)⟩)
            dsimp only [Pt.U, Pt.locs, Pt.cells, Pt.slots] at X_131 l_131 y_131 z_131 st_131 hQ_131
            obtain rfl : kc_131 = 8 := y_131
            obtain rfl : nc_131 = 82 := z_131
            dsimp only [Pt.U, Pt.locs, Pt.cells, Pt.slots] at sn_131 gg_131 CH_131
            obtain ⟨X_131, HE_131, hZ, hown⟩ := OwnH.call HE_126 e_126 X_131 sn_131 gg_131 hZ hown CH_131
            obtain ⟨h_131, e_131⟩ : ∃ hh, T_131.heap = hh := ⟨_, rfl⟩
            rw [e_131] at hQ_131 HE_131 CH_131
            obtain ⟨rfl, N_131q, K_131⟩ := hQ_131
            have N_131 : Fr n0 L_131 := by rw [l_131]; exact Fr.app N_126 N_131q
            refine GoS.st (fun _ kk => st_131.trans kk) ?_
            have KK_131 : Keep h0 h_131 [] := KK_126.trans K_131 all0
            have z_131q : n0 ≤ h_131.size := Nat.le_trans z_126q K_131.1
            have ns_131 : ∀ x ∈ ([] : List Addr), ∀ cell : Cell, h_126[x]? = some cell → cell.vm.isStatics = false := all0
            show GoS p e below s _ _ _ _ _ T_131 (mkF m 111 #[.val (.int na), .val (.int nb), .val (.int (35 : Int32)), .val (.int rr_101), .val (.int (95 : Int32)), .val (.int (1 : Int32)), .val (.int (1 : Int32))] [(.int (1 : Int32))])
            exact GoS.retZ hZ hEL HE_131 e_131 X_131 hx hlk Bd.returns (hb hby at_111) rfl (by rw [e_131]; exact ⟨rfl, N_131⟩) (by decide) (by decide)
          · refine GoS.st (fun _ => XS.icmpYes X0.here hx rfl (pc0 := 24) (pc' := 32) rfl (hb hby at_24) rfl (feq hc_118).2 (by decide) (by decide)) ?_
            show GoS p e below s _ _ _ _ _ s₁ (mkF m 32 #[.val (.int na), .val (.int nb), .val (.int (35 : Int32)), .val (.int rr_101), .unset, .unset, .unset] [])
            refine GoS.st (fun _ => XS.bipush X0.here hx rfl (hb hby at_32)) ?_
            show GoS p e below s _ _ _ _ _ s₁ (mkF m 34 #[.val (.int na), .val (.int nb), .val (.int (35 : Int32)), .val (.int rr_101), .unset, .unset, .unset] [(.int (35 : Int32))])
            refine GoS.st (fun _ => XS.istore X0.here hx rfl (hb hby at_34) rfl (l' := #[.val (.int na), .val (.int nb), .val (.int (35 : Int32)), .val (.int rr_101), .val (.int (35 : Int32)), .unset, .unset]) rfl) ?_
            show GoS p e below s _ _ _ _ _ s₁ (mkF m 36 #[.val (.int na), .val (.int nb), .val (.int (35 : Int32)), .val (.int rr_101), .val (.int (35 : Int32)), .unset, .unset] [])
            refine GoS.st (fun _ => XS.iloadN X0.here hx rfl (hb hby at_36) rfl) ?_
            show GoS p e below s _ _ _ _ _ s₁ (mkF m 37 #[.val (.int na), .val (.int nb), .val (.int (35 : Int32)), .val (.int rr_101), .val (.int (35 : Int32)), .unset, .unset] [(.int (35 : Int32))])
            obtain ⟨_, _, ⟨T_134, L_134, kc_134, nc_134⟩, -, X_134, ⟨Lc_134, hQ_134, l_134, y_134, z_134⟩, st_134⟩ := Jvm.LawKit.callS X0 hx (y := (⟨"com/example/contextwire/contextwire/RequestId", "isNodeEnd", "(C)Z"⟩ : MethodName)) hown (mvT hZ (hw _ (List.mem_of_getElem? (i := 2) rfl))) (mvT hZ (hw _ (List.mem_of_getElem? (i := 3) rfl))) (mvT hZ (hw _ (List.mem_of_getElem? (i := 4) rfl))) (mvT hZ (hw _ (List.mem_of_getElem? (i := 5) rfl))) (by decide) (backOf (W := 0) (rmNe35 l Z a0 hw []  h0 n0 Z0 ) hZ (hw _ (List.mem_of_getElem? (i := 5) rfl)) (hw _ (List.mem_of_getElem? (i := 4) rfl)) (by decide) (by decide)) (g := (mkF m 37 #[.val (.int na), .val (.int nb), .val (.int (35 : Int32)), .val (.int rr_101), .val (.int (35 : Int32)), .unset, .unset] [(.int (35 : Int32))])) rfl (by rw [hml]; rfl) (argsL := [(.int (35 : Int32))]) (rest := []) (lenOf pd_0 rfl) rfl (by show 2 * 0 + _ ≤ _; exact Nat.le_of_eq rfl) (hb hby at_37) (fun _ _ => ⟨rfl, e0, (by decide : 0 + 0 ≤ _), (by decide : 0 + 0 ≤ _)⟩)
            dsimp only [Pt.U, Pt.locs, Pt.cells, Pt.slots] at X_134 l_134 y_134 z_134 st_134 hQ_134
            obtain rfl : kc_134 = 0 := y_134
            obtain rfl : nc_134 = 0 := z_134
            obtain ⟨h_134, e_134⟩ : ∃ hh, T_134.heap = hh := ⟨_, rfl⟩
            rw [e_134] at hQ_134
            obtain ⟨rfl, N_134q, sm_134⟩ := hQ_134
            have N_134 : Fr n0 L_134 := by rw [l_134]; exact Fr.app N0 N_134q
            refine GoS.st st_134 ?_
            rw [sm_134] at e_134
            show GoS p e below s _ _ _ _ _ T_134 (mkF m 40 #[.val (.int na), .val (.int nb), .val (.int (35 : Int32)), .val (.int rr_101), .val (.int (35 : Int32)), .unset, .unset] [(.int (1 : Int32))])
            refine GoS.st (fun _ => XS.istore X_134.here hx rfl (hb hby at_40) rfl (l' := #[.val (.int na), .val (.int nb), .val (.int (35 : Int32)), .val (.int rr_101), .val (.int (35 : Int32)), .val (.int (1 : Int32)), .unset]) rfl) ?_
            show GoS p e below s _ _ _ _ _ T_134 (mkF m 42 #[.val (.int na), .val (.int nb), .val (.int (35 : Int32)), .val (.int rr_101), .val (.int (35 : Int32)), .val (.int (1 : Int32)), .unset] [])
            refine GoS.st (fun _ => XS.iloadN X_134.here hx rfl (hb hby at_42) rfl) ?_
            show GoS p e below s _ _ _ _ _ T_134 (mkF m 43 #[.val (.int na), .val (.int nb), .val (.int (35 : Int32)), .val (.int rr_101), .val (.int (35 : Int32)), .val (.int (1 : Int32)), .unset] [(.int (35 : Int32))])
            refine GoS.st (fun _ => XS.bipush X_134.here hx rfl (hb hby at_43)) ?_
            show GoS p e below s _ _ _ _ _ T_134 (mkF m 45 #[.val (.int na), .val (.int nb), .val (.int (35 : Int32)), .val (.int rr_101), .val (.int (35 : Int32)), .val (.int (1 : Int32)), .unset] [(.int (46 : Int32)), (.int (35 : Int32))])
            refine GoS.st (fun _ => XS.icmpNo X_134.here hx rfl (hb hby at_45) rfl (feq (by decide : ¬ ((35 : Int32) = (46 : Int32)))).1) ?_
            show GoS p e below s _ _ _ _ _ T_134 (mkF m 48 #[.val (.int na), .val (.int nb), .val (.int (35 : Int32)), .val (.int rr_101), .val (.int (35 : Int32)), .val (.int (1 : Int32)), .unset] [])
            refine GoS.st (fun _ => XS.iloadN X_134.here hx rfl (hb hby at_48) rfl) ?_
            show GoS p e below s _ _ _ _ _ T_134 (mkF m 49 #[.val (.int na), .val (.int nb), .val (.int (35 : Int32)), .val (.int rr_101), .val (.int (35 : Int32)), .val (.int (1 : Int32)), .unset] [(.int (35 : Int32))])
            refine GoS.st (fun _ => XS.bipush X_134.here hx rfl (hb hby at_49)) ?_
            show GoS p e below s _ _ _ _ _ T_134 (mkF m 51 #[.val (.int na), .val (.int nb), .val (.int (35 : Int32)), .val (.int rr_101), .val (.int (35 : Int32)), .val (.int (1 : Int32)), .unset] [(.int (95 : Int32)), (.int (35 : Int32))])
            refine GoS.st (fun _ => XS.icmpNo X_134.here hx rfl (hb hby at_51) rfl (feq (by decide : ¬ ((35 : Int32) = (95 : Int32)))).1) ?_
            show GoS p e below s _ _ _ _ _ T_134 (mkF m 54 #[.val (.int na), .val (.int nb), .val (.int (35 : Int32)), .val (.int rr_101), .val (.int (35 : Int32)), .val (.int (1 : Int32)), .unset] [])
            refine GoS.st (fun _ => XS.iloadN X_134.here hx rfl (hb hby at_54) rfl) ?_
            show GoS p e below s _ _ _ _ _ T_134 (mkF m 55 #[.val (.int na), .val (.int nb), .val (.int (35 : Int32)), .val (.int rr_101), .val (.int (35 : Int32)), .val (.int (1 : Int32)), .unset] [(.int (35 : Int32))])
            refine GoS.st (fun _ => XS.bipush X_134.here hx rfl (hb hby at_55)) ?_
            show GoS p e below s _ _ _ _ _ T_134 (mkF m 57 #[.val (.int na), .val (.int nb), .val (.int (35 : Int32)), .val (.int rr_101), .val (.int (35 : Int32)), .val (.int (1 : Int32)), .unset] [(.int (35 : Int32)), (.int (35 : Int32))])
            refine GoS.st (fun _ => XS.icmpNo X_134.here hx rfl (hb hby at_57) rfl (teq (by decide : (35 : Int32) = (35 : Int32))).2) ?_
            show GoS p e below s _ _ _ _ _ T_134 (mkF m 60 #[.val (.int na), .val (.int nb), .val (.int (35 : Int32)), .val (.int rr_101), .val (.int (35 : Int32)), .val (.int (1 : Int32)), .unset] [])
            refine GoS.st (fun _ => XS.iconst X_134.here hx rfl (hb hby at_60)) ?_
            show GoS p e below s _ _ _ _ _ T_134 (mkF m 61 #[.val (.int na), .val (.int nb), .val (.int (35 : Int32)), .val (.int rr_101), .val (.int (35 : Int32)), .val (.int (1 : Int32)), .unset] [(.int (1 : Int32))])
            refine GoS.st (fun _ => XS.goto X_134.here hx rfl (pc0 := 61) (pc' := 65) rfl (hb hby at_61) (by decide) (by decide)) ?_
            show GoS p e below s _ _ _ _ _ T_134 (mkF m 65 #[.val (.int na), .val (.int nb), .val (.int (35 : Int32)), .val (.int rr_101), .val (.int (35 : Int32)), .val (.int (1 : Int32)), .unset] [(.int (1 : Int32))])
            refine GoS.st (fun _ => XS.istore X_134.here hx rfl (hb hby at_65) rfl (l' := #[.val (.int na), .val (.int nb), .val (.int (35 : Int32)), .val (.int rr_101), .val (.int (35 : Int32)), .val (.int (1 : Int32)), .val (.int (1 : Int32))]) rfl) ?_
            show GoS p e below s _ _ _ _ _ T_134 (mkF m 67 #[.val (.int na), .val (.int nb), .val (.int (35 : Int32)), .val (.int rr_101), .val (.int (35 : Int32)), .val (.int (1 : Int32)), .val (.int (1 : Int32))] [])
            refine GoS.st (fun _ => XS.iload X_134.here hx rfl (hb hby at_67) rfl) ?_
            show GoS p e below s _ _ _ _ _ T_134 (mkF m 69 #[.val (.int na), .val (.int nb), .val (.int (35 : Int32)), .val (.int rr_101), .val (.int (35 : Int32)), .val (.int (1 : Int32)), .val (.int (1 : Int32))] [(.int (1 : Int32))])
            refine GoS.st (fun _ => XS.iload X_134.here hx rfl (hb hby at_69) rfl) ?_
            show GoS p e below s _ _ _ _ _ T_134 (mkF m 71 #[.val (.int na), .val (.int nb), .val (.int (35 : Int32)), .val (.int rr_101), .val (.int (35 : Int32)), .val (.int (1 : Int32)), .val (.int (1 : Int32))] [(.int (1 : Int32)), (.int (1 : Int32))])
            refine GoS.st (fun _ => XS.icmpYes X_134.here hx rfl (pc0 := 71) (pc' := 76) rfl (hb hby at_71) rfl (teq (by decide : (1 : Int32) = (1 : Int32))).1 (by decide) (by decide)) ?_
            show GoS p e below s _ _ _ _ _ T_134 (mkF m 76 #[.val (.int na), .val (.int nb), .val (.int (35 : Int32)), .val (.int rr_101), .val (.int (35 : Int32)), .val (.int (1 : Int32)), .val (.int (1 : Int32))] [])
            refine GoS.st (fun _ => XS.iload X_134.here hx rfl (hb hby at_76) rfl) ?_
            show GoS p e below s _ _ _ _ _ T_134 (mkF m 78 #[.val (.int na), .val (.int nb), .val (.int (35 : Int32)), .val (.int rr_101), .val (.int (35 : Int32)), .val (.int (1 : Int32)), .val (.int (1 : Int32))] [(.int (1 : Int32))])
            refine GoS.st (fun _ => XS.ifNo X_134.here hx rfl (hb hby at_78) rfl ((if0 _ _).trans (feq (by decide : ¬ ((1 : Int32) = (0 : Int32)))).1)) ?_
            show GoS p e below s _ _ _ _ _ T_134 (mkF m 81 #[.val (.int na), .val (.int nb), .val (.int (35 : Int32)), .val (.int rr_101), .val (.int (35 : Int32)), .val (.int (1 : Int32)), .val (.int (1 : Int32))] [])
            refine GoS.st (fun _ => XS.iloadN X_134.here hx rfl (hb hby at_81) rfl) ?_
            show GoS p e below s _ _ _ _ _ T_134 (mkF m 82 #[.val (.int na), .val (.int nb), .val (.int (35 : Int32)), .val (.int rr_101), .val (.int (35 : Int32)), .val (.int (1 : Int32)), .val (.int (1 : Int32))] [(.int (35 : Int32))])
            obtain ⟨_, _, ⟨T_135, L_135, kc_135, nc_135⟩, -, X_135, ⟨Lc_135, hQ_135, l_135, y_135, z_135⟩, st_135⟩ := Jvm.LawKit.callS X_134 hx (y := (⟨"java/lang/String", "valueOf", "(C)Ljava/lang/String;"⟩ : MethodName)) hown (mvT hZ (hw _ (List.mem_of_getElem? (i := 6) rfl))) (mvT hZ (hw _ (List.mem_of_getElem? (i := 7) rfl))) (mvT hZ (hw _ (List.mem_of_getElem? (i := 8) rfl))) (mvT hZ (hw _ (List.mem_of_getElem? (i := 9) rfl))) (by decide) (backOf (W := 0) (rmVo l Z a0 hw [] (35 : Int32) cs h0 n0 Z0 S_COMPACT_STRINGS hcs (by decide)) hZ (hw _ (List.mem_of_getElem? (i := 9) rfl)) (hw _ (List.mem_of_getElem? (i := 8) rfl)) (by decide) (by decide)) (g := (mkF m 82 #[.val (.int na), .val (.int nb), .val (.int (35 : Int32)), .val (.int rr_101), .val (.int (35 : Int32)), .val (.int (1 : Int32)), .val (.int (1 : Int32))] [(.int (35 : Int32))])) rfl (by rw [hml]; rfl) (argsL := [(.int (35 : Int32))]) (rest := []) (lenOf pd_14 rfl) rfl (by show 2 * 0 + _ ≤ _; exact Nat.le_of_eq rfl) (hb hby at_82) (fun _ _ => ⟨rfl, e_134, (by decide : 0 + 2 ≤ _), (by decide : 0 + 5 ≤ _)⟩)
            dsimp only [Pt.U, Pt.locs, Pt.cells, Pt.slots] at X_135 l_135 y_135 z_135 st_135 hQ_135
            obtain rfl : kc_135 = 2 := y_135
            obtain rfl : nc_135 = 5 := z_135
            obtain ⟨h_135, e_135⟩ : ∃ hh, T_135.heap = hh := ⟨_, rfl⟩
            rw [e_135] at hQ_135
            obtain ⟨b__135, d__135, kd__135, rfl, N_135q, K_135, p_135_0, p_135_1, p_135_2, p_135_3, p_135_4, p_135_5, p_135_6, p_135_7, p_135_8⟩ := hQ_135
            have N_135 : Fr n0 L_135 := by rw [l_135]; exact Fr.app N_134 N_135q
            refine GoS.st st_135 ?_
            have KK_135 : Keep h0 h_135 [] := (Keep.refl h0 []).trans K_135 all0
            have z_135q : n0 ≤ h_135.size := Nat.le_trans Z0 K_135.1
            have ns_135 : ∀ x ∈ ([] : List Addr), ∀ cell : Cell, h0[x]? = some cell → cell.vm.isStatics = false := all0
            have HE_135 := HE0.keep K_135 sf0
            have sz_135_0 : h0.size ≤ b__135 := Nat.le_trans (Keep.refl h0 []).1 p_135_0
            have sz_135_5 : h0.size ≤ d__135 := Nat.le_trans (Keep.refl h0 []).1 p_135_5
            show GoS p e below s _ _ _ _ _ T_135 (mkF m 85 #[.val (.int na), .val (.int nb), .val (.int (35 : Int32)), .val (.int rr_101), .val (.int (35 : Int32)), .val (.int (1 : Int32)), .val (.int (1 : Int32))] [(.ref b__135)])
            have W_136 := p_135_7
            rw [show ((35 : Int32)).toInt8.toInt32 = (35 : Int32) from by decide] at W_136
            have f_138 := (own_sta_keep S_COMPACT_STRINGS K_135 ns_135)
            have f_139 := (own_sta_keep S_SIOOBE_FORMATTER K_135 ns_135)
            obtain ⟨_, _, ⟨T_137, L_137, kc_137, nc_137⟩, -, X_137, sn_137, gg_137, ⟨Lc_137, hQ_137, l_137, y_137, z_137, CH_137⟩, st_137⟩ := callSS X_135 hx (y := (⟨"com/example/contextwire/contextwire/RequestId", "isValid", "(Ljava/lang/String;)Z"⟩ : MethodName)) hown (mvT hZ (hw _ (List.mem_of_getElem? (i := 32) rfl))) (mvT hZ (hw _ (List.mem_of_getElem? (i := 33) rfl))) (mvT hZ (hw _ (List.mem_of_getElem? (i := 4) rfl))) (mvT hZ (hw _ (List.mem_of_getElem? (i := 34) rfl))) (by decide) (backOfSH (s := s) (vm0 := s.vm) (W := 0) (rmVa35 l Z a0 hw [] b__135 cs d__135 kd__135 fm h_135 n0 z_135q f_138 hcs f_139 rf_fm p_135_2 p_135_4 p_135_3 W_136) hZ (hw _ (List.mem_of_getElem? (i := 34) rfl)) (hw _ (List.mem_of_getElem? (i := 4) rfl)) (by decide) (by decide) hEL HE_135.chv) (g := (mkF m 85 #[.val (.int na), .val (.int nb), .val (.int (35 : Int32)), .val (.int rr_101), .val (.int (35 : Int32)), .val (.int (1 : Int32)), .val (.int (1 : Int32))] [(.ref b__135)])) rfl (by rw [hml]; rfl) (argsL := [(.ref b__135)]) (rest := []) (lenOf pd_15 rfl) rfl (by show 2 * 0 + _ ≤ _; exact Nat.le_of_eq rfl) (hb hby at_85) (fun _ _ => ⟨rfl, e_135, (by decide : 2 + 2 ≤ _), (by decide : 5 + 36 ≤ _)⟩)
            dsimp only [Pt.U, Pt.locs, Pt.cells, Pt.slots] at X_137 l_137 y_137 z_137 st_137 hQ_137
            obtain rfl : kc_137 = 4 := y_137
            obtain rfl : nc_137 = 41 := z_137
            dsimp only [Pt.U, Pt.locs, Pt.cells, Pt.slots] at sn_137 gg_137 CH_137
            obtain ⟨X_137, HE_137, hZ, hown⟩ := OwnH.call HE_135 e_135 X_137 sn_137 gg_137 hZ hown CH_137
            obtain ⟨h_137, e_137⟩ : ∃ hh, T_137.heap = hh := ⟨_, rfl⟩
            rw [e_137] at hQ_137 HE_137 CH_137
            obtain ⟨rfl, N_137q, K_137⟩ := hQ_137
            have N_137 : Fr n0 L_137 := by rw [l_137]; exact Fr.app N_135 N_137q
            refine GoS.st (fun _ kk => st_137.trans kk) ?_
            have KK_137 : Keep h0 h_137 [] := KK_135.trans K_137 all0
            have z_137q : n0 ≤ h_137.size := Nat.le_trans z_135q K_137.1
            have ns_137 : ∀ x ∈ ([] : List Addr), ∀ cell : Cell, h_135[x]? = some cell → cell.vm.isStatics = false := all0
            show GoS p e below s _ _ _ _ _ T_137 (mkF m 88 #[.val (.int na), .val (.int nb), .val (.int (35 : Int32)), .val (.int rr_101), .val (.int (35 : Int32)), .val (.int (1 : Int32)), .val (.int (1 : Int32))] [(.int (1 : Int32))])
            refine GoS.st (fun _ => XS.ifYes X_137.here hx rfl (pc0 := 88) (pc' := 93) rfl (hb hby at_88) rfl ((if0 _ _).trans (feq (by decide : ¬ ((1 : Int32) = (0 : Int32)))).2) (by decide) (by decide)) ?_
            show GoS p e below s _ _ _ _ _ T_137 (mkF m 93 #[.val (.int na), .val (.int nb), .val (.int (35 : Int32)), .val (.int rr_101), .val (.int (35 : Int32)), .val (.int (1 : Int32)), .val (.int (1 : Int32))] [])
            refine GoS.st (fun _ => XS.iload X_137.here hx rfl (hb hby at_93) rfl) ?_
            show GoS p e below s _ _ _ _ _ T_137 (mkF m 95 #[.val (.int na), .val (.int nb), .val (.int (35 : Int32)), .val (.int rr_101), .val (.int (35 : Int32)), .val (.int (1 : Int32)), .val (.int (1 : Int32))] [(.int (35 : Int32))])
            obtain ⟨_, _, ⟨T_140, L_140, kc_140, nc_140⟩, -, X_140, ⟨Lc_140, hQ_140, l_140, y_140, z_140⟩, st_140⟩ := Jvm.LawKit.callS X_137 hx (y := (⟨"com/example/contextwire/contextwire/RequestId", "isNodeEnd", "(C)Z"⟩ : MethodName)) hown (mvT hZ (hw _ (List.mem_of_getElem? (i := 2) rfl))) (mvT hZ (hw _ (List.mem_of_getElem? (i := 3) rfl))) (mvT hZ (hw _ (List.mem_of_getElem? (i := 4) rfl))) (mvT hZ (hw _ (List.mem_of_getElem? (i := 5) rfl))) (by decide) (backOf (W := 0) (rmNe35 l Z a0 hw []  h_137 n0 z_137q ) hZ (hw _ (List.mem_of_getElem? (i := 5) rfl)) (hw _ (List.mem_of_getElem? (i := 4) rfl)) (by decide) (by decide)) (g := (mkF m 95 #[.val (.int na), .val (.int nb), .val (.int (35 : Int32)), .val (.int rr_101), .val (.int (35 : Int32)), .val (.int (1 : Int32)), .val (.int (1 : Int32))] [(.int (35 : Int32))])) rfl (by rw [hml]; rfl) (argsL := [(.int (35 : Int32))]) (rest := []) (lenOf pd_0 rfl) rfl (by show 2 * 0 + _ ≤ _; exact Nat.le_of_eq rfl) (hb hby at_95) (fun _ _ => ⟨rfl, e_137, (by decide : 4 + 0 ≤ _), (by decide : 41 + 0 ≤ _)⟩)
            dsimp only [Pt.U, Pt.locs, Pt.cells, Pt.slots] at X_140 l_140 y_140 z_140 st_140 hQ_140
            obtain rfl : kc_140 = 4 := y_140
            obtain rfl : nc_140 = 41 := z_140
            obtain ⟨h_140, e_140⟩ : ∃ hh, T_140.heap = hh := ⟨_, rfl⟩
            rw [e_140] at hQ_140
            obtain ⟨rfl, N_140q, sm_140⟩ := hQ_140
            have N_140 : Fr n0 L_140 := by rw [l_140]; exact Fr.app N_137 N_140q
            refine GoS.st st_140 ?_
            rw [sm_140] at e_140
            show GoS p e below s _ _ _ _ _ T_140 (mkF m 98 #[.val (.int na), .val (.int nb), .val (.int (35 : Int32)), .val (.int rr_101), .val (.int (35 : Int32)), .val (.int (1 : Int32)), .val (.int (1 : Int32))] [(.int (1 : Int32))])
            refine GoS.st (fun _ => XS.ifYes X_140.here hx rfl (pc0 := 98) (pc' := 103) rfl (hb hby at_98) rfl ((if0 _ _).trans (feq (by decide : ¬ ((1 : Int32) = (0 : Int32)))).2) (by decide) (by decide)) ?_
            show GoS p e below s _ _ _ _ _ T_140 (mkF m 103 #[.val (.int na), .val (.int nb), .val (.int (35 : Int32)), .val (.int rr_101), .val (.int (35 : Int32)), .val (.int (1 : Int32)), .val (.int (1 : Int32))] [])
            refine GoS.st (fun _ => XS.iload X_140.here hx rfl (hb hby at_103) rfl) ?_
            show GoS p e below s _ _ _ _ _ T_140 (mkF m 105 #[.val (.int na), .val (.int nb), .val (.int (35 : Int32)), .val (.int rr_101), .val (.int (35 : Int32)), .val (.int (1 : Int32)), .val (.int (1 : Int32))] [(.int (35 : Int32))])
            have f_142 := (own_sta_keep f_138 K_137 ns_137)
            obtain ⟨_, _, ⟨T_141, L_141, kc_141, nc_141⟩, -, X_141, ⟨Lc_141, hQ_141, l_141, y_141, z_141⟩, st_141⟩ := Jvm.LawKit.callS X_140 hx (y := (⟨"java/lang/String", "valueOf", "(C)Ljava/lang/String;"⟩ : MethodName)) hown (mvT hZ (hw _ (List.mem_of_getElem? (i := 6) rfl))) (mvT hZ (hw _ (List.mem_of_getElem? (i := 7) rfl))) (mvT hZ (hw _ (List.mem_of_getElem? (i := 8) rfl))) (mvT hZ (hw _ (List.mem_of_getElem? (i := 9) rfl))) (by decide) (backOf (W := 0) (rmVo l Z a0 hw [] (35 : Int32) cs h_137 n0 z_137q f_142 hcs (by decide)) hZ (hw _ (List.mem_of_getElem? (i := 9) rfl)) (hw _ (List.mem_of_getElem? (i := 8) rfl)) (by decide) (by decide)) (g := (mkF m 105 #[.val (.int na), .val (.int nb), .val (.int (35 : Int32)), .val (.int rr_101), .val (.int (35 : Int32)), .val (.int (1 : Int32)), .val (.int (1 : Int32))] [(.int (35 : Int32))])) rfl (by rw [hml]; rfl) (argsL := [(.int (35 : Int32))]) (rest := []) (lenOf pd_14 rfl) rfl (by show 2 * 0 + _ ≤ _; exact Nat.le_of_eq rfl) (hb hby at_105) (fun _ _ => ⟨rfl, e_140, (by decide : 4 + 2 ≤ _), (by decide : 41 + 5 ≤ _)⟩)
            dsimp only [Pt.U, Pt.locs, Pt.cells, Pt.slots] at X_141 l_141 y_141 z_141 st_141 hQ_141
            obtain rfl : kc_141 = 6 := y_141
            obtain rfl : nc_141 = 46 := z_141
            obtain ⟨h_141, e_141⟩ : ∃ hh, T_141.heap = hh := ⟨_, rfl⟩
            rw [e_141] at hQ_141
            obtain ⟨b__141, d__141, kd__141, rfl, N_141q, K_141, p_141_0, p_141_1, p_141_2, p_141_3, p_141_4, p_141_5, p_141_6, p_141_7, p_141_8⟩ := hQ_141
            have N_141 : Fr n0 L_141 := by rw [l_141]; exact Fr.app N_140 N_141q
            refine GoS.st st_141 ?_
            have f_143 := (p_135_2.keep K_137)
            have ne_b__135_b__141 : b__135 ≠ b__141 := Nat.ne_of_lt (Nat.lt_of_lt_of_le f_143.lt p_141_0)
            have f_144 := (W_136.keep K_137 nin0)
            have ne_d__135_b__141 : d__135 ≠ b__141 := Nat.ne_of_lt (Nat.lt_of_lt_of_le f_144.lt p_141_0)
            have ne_b__135_d__141 : b__135 ≠ d__141 := Nat.ne_of_lt (Nat.lt_of_lt_of_le f_143.lt p_141_5)
            have ne_d__135_d__141 : d__135 ≠ d__141 := Nat.ne_of_lt (Nat.lt_of_lt_of_le f_144.lt p_141_5)
            have KK_141 : Keep h0 h_141 [] := KK_137.trans K_141 all0
            have z_141q : n0 ≤ h_141.size := Nat.le_trans z_137q K_141.1
            have ns_141 : ∀ x ∈ ([] : List Addr), ∀ cell : Cell, h_137[x]? = some cell → cell.vm.isStatics = false := all0
            have HE_141 := HE_137.keep K_141 sf0
            have sz_141_0 : h0.size ≤ b__141 := Nat.le_trans KK_137.1 p_141_0
            have sz_141_5 : h0.size ≤ d__141 := Nat.le_trans KK_137.1 p_141_5
            show GoS p e below s _ _ _ _ _ T_141 (mkF m 108 #[.val (.int na), .val (.int nb), .val (.int (35 : Int32)), .val (.int rr_101), .val (.int (35 : Int32)), .val (.int (1 : Int32)), .val (.int (1 : Int32))] [(.ref b__141)])
            have W_145 := p_141_7
            rw [show ((35 : Int32)).toInt8.toInt32 = (35 : Int32) from by decide] at W_145
            have f_147 := (own_sta_keep f_142 K_141 ns_141)
            have f_148 := (own_sta_keep (own_sta_keep f_139 K_137 ns_137) K_141 ns_141)
            obtain ⟨_, _, ⟨T_146, L_146, kc_146, nc_146⟩, -, X_146, sn_146, gg_146, ⟨Lc_146, hQ_146, l_146, y_146, z_146, CH_146⟩, st_146⟩ := callSS X_141 hx (y := (⟨"com/example/contextwire/contextwire/RequestId", "isValid", "(Ljava/lang/String;)Z"⟩ : MethodName)) hown (mvT hZ (hw _ (List.mem_of_getElem? (i := 32) rfl))) (mvT hZ (hw _ (List.mem_of_getElem? (i := 33) rfl))) (mvT hZ (hw _ (List.mem_of_getElem? (i := 4) rfl))) (mvT hZ (hw _ (List.mem_of_getElem? (i := 34) rfl))) (by decide) (backOfSH (s := s) (vm0 := T_137.vm) (W := 0) (rmVa35 l Z a0 hw [] b__141 cs d__141 kd__141 fm h_141 n0 z_141q f_147 hcs f_148 rf_fm p_141_2 p_141_4 p_141_3 W_145) hZ (hw _ (List.mem_of_getElem? (i := 34) rfl)) (hw _ (List.mem_of_getElem? (i := 4) rfl)) (by decide) (by decide) hEL HE_141.chv) (g := (mkF m 108 #[.val (.int na), .val (.int nb), .val (.int (35 : Int32)), .val (.int rr_101), .val (.int (35 : Int32)), .val (.int (1 : Int32)), .val (.int (1 : Int32))] [(.ref b__141)])) rfl (by rw [hml]; rfl) (argsL := [(.ref b__141)]) (rest := []) (lenOf pd_15 rfl) rfl (by show 2 * 0 + _ ≤ _; exact Nat.le_of_eq rfl) (hb hby at_108) (fun _ _ => ⟨rfl, e_141, (by decide : 6 + 2 ≤ _), (by decide : 46 + 36 ≤ _)⟩)
            dsimp only [Pt.U, Pt.locs, Pt.cells, Pt.slots] at X_146 l_146 y_146 z_146 st_146 hQ_146
            obtain rfl : kc_146 = 8 := y_146
            obtain rfl : nc_146 = 82 := z_146
            dsimp only [Pt.U, Pt.locs, Pt.cells, Pt.slots] at sn_146 gg_146 CH_146
            obtain ⟨X_146, HE_146, hZ, hown⟩ := OwnH.call HE_141 e_141 X_146 sn_146 gg_146 hZ hown CH_146
            obtain ⟨h_146, e_146⟩ : ∃ hh, T_146.heap = hh := ⟨_, rfl⟩
            rw [e_146] at hQ_146 HE_146 CH_146
            obtain ⟨rfl, N_146q, K_146⟩ := hQ_146
            have N_146 : Fr n0 L_146 := by rw [l_146]; exact Fr.app N_141 N_146q
            refine GoS.st (fun _ kk => st_146.trans kk) ?_
            have KK_146 : Keep h0 h_146 [] := KK_141.trans K_146 all0
            have z_146q : n0 ≤ h_146.size := Nat.le_trans z_141q K_146.1
            have ns_146 : ∀ x ∈ ([] : List Addr), ∀ cell : Cell, h_141[x]? = some cell → cell.vm.isStatics = false := all0
            show GoS p e below s _ _ _ _ _ T_146 (mkF m 111 #[.val (.int na), .val (.int nb), .val (.int (35 : Int32)), .val (.int rr_101), .val (.int (35 : Int32)), .val (.int (1 : Int32)), .val (.int (1 : Int32))] [(.int (1 : Int32))])
            exact GoS.retZ hZ hEL HE_146 e_146 X_146 hx hlk Bd.returns (hb hby at_111) rfl (by rw [e_146]; exact ⟨rfl, N_146⟩) (by decide) (by decide)
      · refine GoS.st (fun _ => XS.istoreN X0.here hx rfl (hb hby at_5) rfl (l' := #[.val (.int na), .val (.int nb), .val (.int ch_1), .unset, .unset, .unset, .unset]) rfl) ?_
        show GoS p e below s _ _ _ _ _ s₁ (mkF m 6 #[.val (.int na), .val (.int nb), .val (.int ch_1), .unset, .unset, .unset, .unset] [])
        refine GoS.st (fun _ => XS.iloadN X0.here hx rfl (hb hby at_6) rfl) ?_
        show GoS p e below s _ _ _ _ _ s₁ (mkF m 7 #[.val (.int na), .val (.int nb), .val (.int ch_1), .unset, .unset, .unset, .unset] [(.int nb)])
        refine GoS.st (fun tG => X0.ldcInt hx hown (mvT hZ (hw _ (List.mem_of_getElem? (i := 1) rfl))) (g := (mkF m 7 #[.val (.int na), .val (.int nb), .val (.int ch_1), .unset, .unset, .unset, .unset] [(.int nb)])) rfl (hb hby at_7) tG) ?_
        show GoS p e below s _ _ _ _ _ s₁ (mkF m 9 #[.val (.int na), .val (.int nb), .val (.int ch_1), .unset, .unset, .unset, .unset] [(.int (2147483647 : Int32)), (.int nb)])
        refine GoS.st (fun _ => XS.iand X0.here hx rfl (hb hby at_9) rfl) ?_
        show GoS p e below s _ _ _ _ _ s₁ (mkF m 10 #[.val (.int na), .val (.int nb), .val (.int ch_1), .unset, .unset, .unset, .unset] [(.int (nb &&& (2147483647 : Int32)))])
        refine GoS.st (fun _ => XS.iconst X0.here hx rfl (hb hby at_10)) ?_
        show GoS p e below s _ _ _ _ _ s₁ (mkF m 11 #[.val (.int na), .val (.int nb), .val (.int ch_1), .unset, .unset, .unset, .unset] [(.int (3 : Int32)), (.int (nb &&& (2147483647 : Int32)))])
        refine GoS.st (fun _ => iremM X0 hx rfl (hb hby at_11) rfl (by decide)) ?_
        show GoS p e below s _ _ _ _ _ s₁ (mkF m 12 #[.val (.int na), .val (.int nb), .val (.int ch_1), .unset, .unset, .unset, .unset] [(.int ((nb &&& (2147483647 : Int32)) % (3 : Int32)))])
        refine GoS.st (fun _ => XS.istoreN X0.here hx rfl (hb hby at_12) rfl (l' := #[.val (.int na), .val (.int nb), .val (.int ch_1), .val (.int ((nb &&& (2147483647 : Int32)) % (3 : Int32))), .unset, .unset, .unset]) rfl) ?_
        show GoS p e below s _ _ _ _ _ s₁ (mkF m 13 #[.val (.int na), .val (.int nb), .val (.int ch_1), .val (.int ((nb &&& (2147483647 : Int32)) % (3 : Int32))), .unset, .unset, .unset] [])
        obtain ⟨rr_149, hrr_149⟩ : ∃ z, z = ((nb &&& (2147483647 : Int32)) % (3 : Int32)) := ⟨_, rfl⟩
        rw [← hrr_149]
        show GoS p e below s _ _ _ _ _ s₁ (mkF m 13 #[.val (.int na), .val (.int nb), .val (.int ch_1), .val (.int rr_149), .unset, .unset, .unset] [])
        refine GoS.st (fun _ => XS.iloadN X0.here hx rfl (hb hby at_13) rfl) ?_
        show GoS p e below s _ _ _ _ _ s₁ (mkF m 14 #[.val (.int na), .val (.int nb), .val (.int ch_1), .val (.int rr_149), .unset, .unset, .unset] [(.int rr_149)])
        by_cases hc_150 : rr_149 = (0 : Int32)
        · refine GoS.st (fun _ => XS.ifNo X0.here hx rfl (hb hby at_14) rfl ((if0 _ _).trans (teq hc_150).2)) ?_
          show GoS p e below s _ _ _ _ _ s₁ (mkF m 17 #[.val (.int na), .val (.int nb), .val (.int ch_1), .val (.int rr_149), .unset, .unset, .unset] [])
          refine GoS.st (fun _ => XS.bipush X0.here hx rfl (hb hby at_17)) ?_
          show GoS p e below s _ _ _ _ _ s₁ (mkF m 19 #[.val (.int na), .val (.int nb), .val (.int ch_1), .val (.int rr_149), .unset, .unset, .unset] [(.int (46 : Int32))])
          refine GoS.st (fun _ => XS.goto X0.here hx rfl (pc0 := 19) (pc' := 34) rfl (hb hby at_19) (by decide) (by decide)) ?_
          show GoS p e below s _ _ _ _ _ s₁ (mkF m 34 #[.val (.int na), .val (.int nb), .val (.int ch_1), .val (.int rr_149), .unset, .unset, .unset] [(.int (46 : Int32))])
          refine GoS.st (fun _ => XS.istore X0.here hx rfl (hb hby at_34) rfl (l' := #[.val (.int na), .val (.int nb), .val (.int ch_1), .val (.int rr_149), .val (.int (46 : Int32)), .unset, .unset]) rfl) ?_
          show GoS p e below s _ _ _ _ _ s₁ (mkF m 36 #[.val (.int na), .val (.int nb), .val (.int ch_1), .val (.int rr_149), .val (.int (46 : Int32)), .unset, .unset] [])
          refine GoS.st (fun _ => XS.iloadN X0.here hx rfl (hb hby at_36) rfl) ?_
          show GoS p e below s _ _ _ _ _ s₁ (mkF m 37 #[.val (.int na), .val (.int nb), .val (.int ch_1), .val (.int rr_149), .val (.int (46 : Int32)), .unset, .unset] [(.int ch_1)])
          obtain ⟨_, _, ⟨T_151, L_151, kc_151, nc_151⟩, -, X_151, ⟨Lc_151, hQ_151, l_151, y_151, z_151⟩, st_151⟩ := Jvm.LawKit.callS X0 hx (y := (⟨"com/example/contextwire/contextwire/RequestId", "isNodeEnd", "(C)Z"⟩ : MethodName)) hown (mvT hZ (hw _ (List.mem_of_getElem? (i := 2) rfl))) (mvT hZ (hw _ (List.mem_of_getElem? (i := 3) rfl))) (mvT hZ (hw _ (List.mem_of_getElem? (i := 4) rfl))) (mvT hZ (hw _ (List.mem_of_getElem? (i := 5) rfl))) (by decide) (backOf (W := 0) (rmNeN l Z a0 hw [] ch_1 h0 n0 Z0 hc_2 hc_51 hc_100) hZ (hw _ (List.mem_of_getElem? (i := 5) rfl)) (hw _ (List.mem_of_getElem? (i := 4) rfl)) (by decide) (by decide)) (g := (mkF m 37 #[.val (.int na), .val (.int nb), .val (.int ch_1), .val (.int rr_149), .val (.int (46 : Int32)), .unset, .unset] [(.int ch_1)])) rfl (by rw [hml]; rfl) (argsL := [(.int ch_1)]) (rest := []) (lenOf pd_0 rfl) rfl (by show 2 * 0 + _ ≤ _; exact Nat.le_of_eq rfl) (hb hby at_37) (fun _ _ => ⟨rfl, e0, (by decide : 0 + 0 ≤ _), (by decide : 0 + 0 ≤ _)⟩)
          dsimp only [Pt.U, Pt.locs, Pt.cells, Pt.slots] at X_151 l_151 y_151 z_151 st_151 hQ_151
          obtain rfl : kc_151 = 0 := y_151
          obtain rfl : nc_151 = 0 := z_151
          obtain ⟨h_151, e_151⟩ : ∃ hh, T_151.heap = hh := ⟨_, rfl⟩
          rw [e_151] at hQ_151
          obtain ⟨rfl, N_151q, sm_151⟩ := hQ_151
          have N_151 : Fr n0 L_151 := by rw [l_151]; exact Fr.app N0 N_151q
          refine GoS.st st_151 ?_
          rw [sm_151] at e_151
          show GoS p e below s _ _ _ _ _ T_151 (mkF m 40 #[.val (.int na), .val (.int nb), .val (.int ch_1), .val (.int rr_149), .val (.int (46 : Int32)), .unset, .unset] [(.int (0 : Int32))])
          refine GoS.st (fun _ => XS.istore X_151.here hx rfl (hb hby at_40) rfl (l' := #[.val (.int na), .val (.int nb), .val (.int ch_1), .val (.int rr_149), .val (.int (46 : Int32)), .val (.int (0 : Int32)), .unset]) rfl) ?_
          show GoS p e below s _ _ _ _ _ T_151 (mkF m 42 #[.val (.int na), .val (.int nb), .val (.int ch_1), .val (.int rr_149), .val (.int (46 : Int32)), .val (.int (0 : Int32)), .unset] [])
          refine GoS.st (fun _ => XS.iloadN X_151.here hx rfl (hb hby at_42) rfl) ?_
          show GoS p e below s _ _ _ _ _ T_151 (mkF m 43 #[.val (.int na), .val (.int nb), .val (.int ch_1), .val (.int rr_149), .val (.int (46 : Int32)), .val (.int (0 : Int32)), .unset] [(.int ch_1)])
          refine GoS.st (fun _ => XS.bipush X_151.here hx rfl (hb hby at_43)) ?_
          show GoS p e below s _ _ _ _ _ T_151 (mkF m 45 #[.val (.int na), .val (.int nb), .val (.int ch_1), .val (.int rr_149), .val (.int (46 : Int32)), .val (.int (0 : Int32)), .unset] [(.int (46 : Int32)), (.int ch_1)])
          refine GoS.st (fun _ => XS.icmpNo X_151.here hx rfl (hb hby at_45) rfl (feq hc_2).1) ?_
          show GoS p e below s _ _ _ _ _ T_151 (mkF m 48 #[.val (.int na), .val (.int nb), .val (.int ch_1), .val (.int rr_149), .val (.int (46 : Int32)), .val (.int (0 : Int32)), .unset] [])
          refine GoS.st (fun _ => XS.iloadN X_151.here hx rfl (hb hby at_48) rfl) ?_
          show GoS p e below s _ _ _ _ _ T_151 (mkF m 49 #[.val (.int na), .val (.int nb), .val (.int ch_1), .val (.int rr_149), .val (.int (46 : Int32)), .val (.int (0 : Int32)), .unset] [(.int ch_1)])
          refine GoS.st (fun _ => XS.bipush X_151.here hx rfl (hb hby at_49)) ?_
          show GoS p e below s _ _ _ _ _ T_151 (mkF m 51 #[.val (.int na), .val (.int nb), .val (.int ch_1), .val (.int rr_149), .val (.int (46 : Int32)), .val (.int (0 : Int32)), .unset] [(.int (95 : Int32)), (.int ch_1)])
          refine GoS.st (fun _ => XS.icmpNo X_151.here hx rfl (hb hby at_51) rfl (feq hc_51).1) ?_
          show GoS p e below s _ _ _ _ _ T_151 (mkF m 54 #[.val (.int na), .val (.int nb), .val (.int ch_1), .val (.int rr_149), .val (.int (46 : Int32)), .val (.int (0 : Int32)), .unset] [])
          refine GoS.st (fun _ => XS.iloadN X_151.here hx rfl (hb hby at_54) rfl) ?_
          show GoS p e below s _ _ _ _ _ T_151 (mkF m 55 #[.val (.int na), .val (.int nb), .val (.int ch_1), .val (.int rr_149), .val (.int (46 : Int32)), .val (.int (0 : Int32)), .unset] [(.int ch_1)])
          refine GoS.st (fun _ => XS.bipush X_151.here hx rfl (hb hby at_55)) ?_
          show GoS p e below s _ _ _ _ _ T_151 (mkF m 57 #[.val (.int na), .val (.int nb), .val (.int ch_1), .val (.int rr_149), .val (.int (46 : Int32)), .val (.int (0 : Int32)), .unset] [(.int (35 : Int32)), (.int ch_1)])
          refine GoS.st (fun _ => XS.icmpYes X_151.here hx rfl (pc0 := 57) (pc' := 64) rfl (hb hby at_57) rfl (feq hc_100).2 (by decide) (by decide)) ?_
          show GoS p e below s _ _ _ _ _ T_151 (mkF m 64 #[.val (.int na), .val (.int nb), .val (.int ch_1), .val (.int rr_149), .val (.int (46 : Int32)), .val (.int (0 : Int32)), .unset] [])
          refine GoS.st (fun _ => XS.iconst X_151.here hx rfl (hb hby at_64)) ?_
          show GoS p e below s _ _ _ _ _ T_151 (mkF m 65 #[.val (.int na), .val (.int nb), .val (.int ch_1), .val (.int rr_149), .val (.int (46 : Int32)), .val (.int (0 : Int32)), .unset] [(.int (0 : Int32))])
          refine GoS.st (fun _ => XS.istore X_151.here hx rfl (hb hby at_65) rfl (l' := #[.val (.int na), .val (.int nb), .val (.int ch_1), .val (.int rr_149), .val (.int (46 : Int32)), .val (.int (0 : Int32)), .val (.int (0 : Int32))]) rfl) ?_
          show GoS p e below s _ _ _ _ _ T_151 (mkF m 67 #[.val (.int na), .val (.int nb), .val (.int ch_1), .val (.int rr_149), .val (.int (46 : Int32)), .val (.int (0 : Int32)), .val (.int (0 : Int32))] [])
          refine GoS.st (fun _ => XS.iload X_151.here hx rfl (hb hby at_67) rfl) ?_
          show GoS p e below s _ _ _ _ _ T_151 (mkF m 69 #[.val (.int na), .val (.int nb), .val (.int ch_1), .val (.int rr_149), .val (.int (46 : Int32)), .val (.int (0 : Int32)), .val (.int (0 : Int32))] [(.int (0 : Int32))])
          refine GoS.st (fun _ => XS.iload X_151.here hx rfl (hb hby at_69) rfl) ?_
          show GoS p e below s _ _ _ _ _ T_151 (mkF m 71 #[.val (.int na), .val (.int nb), .val (.int ch_1), .val (.int rr_149), .val (.int (46 : Int32)), .val (.int (0 : Int32)), .val (.int (0 : Int32))] [(.int (0 : Int32)), (.int (0 : Int32))])
          refine GoS.st (fun _ => XS.icmpYes X_151.here hx rfl (pc0 := 71) (pc' := 76) rfl (hb hby at_71) rfl (teq (by decide : (0 : Int32) = (0 : Int32))).1 (by decide) (by decide)) ?_
          show GoS p e below s _ _ _ _ _ T_151 (mkF m 76 #[.val (.int na), .val (.int nb), .val (.int ch_1), .val (.int rr_149), .val (.int (46 : Int32)), .val (.int (0 : Int32)), .val (.int (0 : Int32))] [])
          refine GoS.st (fun _ => XS.iload X_151.here hx rfl (hb hby at_76) rfl) ?_
          show GoS p e below s _ _ _ _ _ T_151 (mkF m 78 #[.val (.int na), .val (.int nb), .val (.int ch_1), .val (.int rr_149), .val (.int (46 : Int32)), .val (.int (0 : Int32)), .val (.int (0 : Int32))] [(.int (0 : Int32))])
          refine GoS.st (fun _ => XS.ifYes X_151.here hx rfl (pc0 := 78) (pc' := 93) rfl (hb hby at_78) rfl ((if0 _ _).trans (teq (by decide : (0 : Int32) = (0 : Int32))).1) (by decide) (by decide)) ?_
          show GoS p e below s _ _ _ _ _ T_151 (mkF m 93 #[.val (.int na), .val (.int nb), .val (.int ch_1), .val (.int rr_149), .val (.int (46 : Int32)), .val (.int (0 : Int32)), .val (.int (0 : Int32))] [])
          refine GoS.st (fun _ => XS.iload X_151.here hx rfl (hb hby at_93) rfl) ?_
          show GoS p e below s _ _ _ _ _ T_151 (mkF m 95 #[.val (.int na), .val (.int nb), .val (.int ch_1), .val (.int rr_149), .val (.int (46 : Int32)), .val (.int (0 : Int32)), .val (.int (0 : Int32))] [(.int (46 : Int32))])
          obtain ⟨_, _, ⟨T_152, L_152, kc_152, nc_152⟩, -, X_152, ⟨Lc_152, hQ_152, l_152, y_152, z_152⟩, st_152⟩ := Jvm.LawKit.callS X_151 hx (y := (⟨"com/example/contextwire/contextwire/RequestId", "isNodeEnd", "(C)Z"⟩ : MethodName)) hown (mvT hZ (hw _ (List.mem_of_getElem? (i := 2) rfl))) (mvT hZ (hw _ (List.mem_of_getElem? (i := 3) rfl))) (mvT hZ (hw _ (List.mem_of_getElem? (i := 4) rfl))) (mvT hZ (hw _ (List.mem_of_getElem? (i := 5) rfl))) (by decide) (backOf (W := 0) (rmNe46 l Z a0 hw []  h0 n0 Z0 ) hZ (hw _ (List.mem_of_getElem? (i := 5) rfl)) (hw _ (List.mem_of_getElem? (i := 4) rfl)) (by decide) (by decide)) (g := (mkF m 95 #[.val (.int na), .val (.int nb), .val (.int ch_1), .val (.int rr_149), .val (.int (46 : Int32)), .val (.int (0 : Int32)), .val (.int (0 : Int32))] [(.int (46 : Int32))])) rfl (by rw [hml]; rfl) (argsL := [(.int (46 : Int32))]) (rest := []) (lenOf pd_0 rfl) rfl (by show 2 * 0 + _ ≤ _; exact Nat.le_of_eq rfl) (hb hby at_95) (fun _ _ => ⟨rfl, e_151, (by decide : 0 + 0 ≤ _), (by decide : 0 + 0 ≤ _)⟩)
          dsimp only [Pt.U, Pt.locs, Pt.cells, Pt.slots] at X_152 l_152 y_152 z_152 st_152 hQ_152
          obtain rfl : kc_152 = 0 := y_152
          obtain rfl : nc_152 = 0 := z_152
          obtain ⟨h_152, e_152⟩ : ∃ hh, T_152.heap = hh := ⟨_, rfl⟩
          rw [e_152] at hQ_152
          obtain ⟨rfl, N_152q, sm_152⟩ := hQ_152
          have N_152 : Fr n0 L_152 := by rw [l_152]; exact Fr.app N_151 N_152q
          refine GoS.st st_152 ?_
          rw [sm_152] at e_152
          show GoS p e below s _ _ _ _ _ T_152 (mkF m 98 #[.val (.int na), .val (.int nb), .val (.int ch_1), .val (.int rr_149), .val (.int (46 : Int32)), .val (.int (0 : Int32)), .val (.int (0 : Int32))] [(.int (1 : Int32))])
          refine GoS.st (fun _ => XS.ifYes X_152.here hx rfl (pc0 := 98) (pc' := 103) rfl (hb hby at_98) rfl ((if0 _ _).trans (feq (by decide : ¬ ((1 : Int32) = (0 : Int32)))).2) (by decide) (by decide)) ?_
          show GoS p e below s _ _ _ _ _ T_152 (mkF m 103 #[.val (.int na), .val (.int nb), .val (.int ch_1), .val (.int rr_149), .val (.int (46 : Int32)), .val (.int (0 : Int32)), .val (.int (0 : Int32))] [])
          refine GoS.st (fun _ => XS.iload X_152.here hx rfl (hb hby at_103) rfl) ?_
          show GoS p e below s _ _ _ _ _ T_152 (mkF m 105 #[.val (.int na), .val (.int nb), .val (.int ch_1), .val (.int rr_149), .val (.int (46 : Int32)), .val (.int (0 : Int32)), .val (.int (0 : Int32))] [(.int (46 : Int32))])
          obtain ⟨_, _, ⟨T_153, L_153, kc_153, nc_153⟩, -, X_153, ⟨Lc_153, hQ_153, l_153, y_153, z_153⟩, st_153⟩ := Jvm.LawKit.callS X_152 hx (y := (⟨"java/lang/String", "valueOf", "(C)Ljava/lang/String;"⟩ : MethodName)) hown (mvT hZ (hw _ (List.mem_of_getElem? (i := 6) rfl))) (mvT hZ (hw _ (List.mem_of_getElem? (i := 7) rfl))) (mvT hZ (hw _ (List.mem_of_getElem? (i := 8) rfl))) (mvT hZ (hw _ (List.mem_of_getElem? (i := 9) rfl))) (by decide) (backOf (W := 0) (rmVo l Z a0 hw [] (46 : Int32) cs h0 n0 Z0 S_COMPACT_STRINGS hcs (by decide)) hZ (hw _ (List.mem_of_getElem? (i := 9) rfl)) (hw _ (List.mem_of_getElem? (i := 8) rfl)) (by decide) (by decide)) (g := (mkF m 105 #[.val (.int na), .val (.int nb), .val (.int ch_1), .val (.int rr_149), .val (.int (46 : Int32)), .val (.int (0 : Int32)), .val (.int (0 : Int32))] [(.int (46 : Int32))])) rfl (by rw [hml]; rfl) (argsL := [(.int (46 : Int32))]) (rest := []) (lenOf pd_14 rfl) rfl (by show 2 * 0 + _ ≤ _; exact Nat.le_of_eq rfl) (hb hby at_105) (fun _ _ => ⟨rfl, e_152, (by decide : 0 + 2 ≤ _), (by decide : 0 + 5 ≤ _)⟩)
          dsimp only [Pt.U, Pt.locs, Pt.cells, Pt.slots] at X_153 l_153 y_153 z_153 st_153 hQ_153
          obtain rfl : kc_153 = 2 := y_153
          obtain rfl : nc_153 = 5 := z_153
          obtain ⟨h_153, e_153⟩ : ∃ hh, T_153.heap = hh := ⟨_, rfl⟩
          rw [e_153] at hQ_153
          obtain ⟨b__153, d__153, kd__153, rfl, N_153q, K_153, p_153_0, p_153_1, p_153_2, p_153_3, p_153_4, p_153_5, p_153_6, p_153_7, p_153_8⟩ := hQ_153
          have N_153 : Fr n0 L_153 := by rw [l_153]; exact Fr.app N_152 N_153q
          refine GoS.st st_153 ?_
          have KK_153 : Keep h0 h_153 [] := (Keep.refl h0 []).trans K_153 all0
          have z_153q : n0 ≤ h_153.size := Nat.le_trans Z0 K_153.1
          have ns_153 : ∀ x ∈ ([] : List Addr), ∀ cell : Cell, h0[x]? = some cell → cell.vm.isStatics = false := all0
          have HE_153 := HE0.keep K_153 sf0
          have sz_153_0 : h0.size ≤ b__153 := Nat.le_trans (Keep.refl h0 []).1 p_153_0
          have sz_153_5 : h0.size ≤ d__153 := Nat.le_trans (Keep.refl h0 []).1 p_153_5
          show GoS p e below s _ _ _ _ _ T_153 (mkF m 108 #[.val (.int na), .val (.int nb), .val (.int ch_1), .val (.int rr_149), .val (.int (46 : Int32)), .val (.int (0 : Int32)), .val (.int (0 : Int32))] [(.ref b__153)])
          have W_154 := p_153_7
          rw [show ((46 : Int32)).toInt8.toInt32 = (46 : Int32) from by decide] at W_154
          have f_156 := (own_sta_keep S_COMPACT_STRINGS K_153 ns_153)
          have f_157 := (own_sta_keep S_SIOOBE_FORMATTER K_153 ns_153)
          obtain ⟨_, _, ⟨T_155, L_155, kc_155, nc_155⟩, -, X_155, sn_155, gg_155, ⟨Lc_155, hQ_155, l_155, y_155, z_155, CH_155⟩, st_155⟩ := callSS X_153 hx (y := (⟨"com/example/contextwire/contextwire/RequestId", "isValid", "(Ljava/lang/String;)Z"⟩ : MethodName)) hown (mvT hZ (hw _ (List.mem_of_getElem? (i := 32) rfl))) (mvT hZ (hw _ (List.mem_of_getElem? (i := 33) rfl))) (mvT hZ (hw _ (List.mem_of_getElem? (i := 4) rfl))) (mvT hZ (hw _ (List.mem_of_getElem? (i := 34) rfl))) (by decide) (backOfSH (s := s) (vm0 := s.vm) (W := 0) (rmVa46 l Z a0 hw [] b__153 cs d__153 kd__153 fm h_153 n0 z_153q f_156 hcs f_157 rf_fm p_153_2 p_153_4 p_153_3 W_154) hZ (hw _ (List.mem_of_getElem? (i := 34) rfl)) (hw _ (List.mem_of_getElem? (i := 4) rfl)) (by decide) (by decide) hEL HE_153.chv) (g := (mkF m 108 #[.val (.int na), .val (.int nb), .val (.int ch_1), .val (.int rr_149), .val (.int (46 : Int32)), .val (.int (0 : Int32)), .val (.int (0 : Int32))] [(.ref b__153)])) rfl (by rw [hml]; rfl) (argsL := [(.ref b__153)]) (rest := []) (lenOf pd_15 rfl) rfl (by show 2 * 0 + _ ≤ _; exact Nat.le_of_eq rfl) (hb hby at_108) (fun _ _ => ⟨rfl, e_153, (by decide : 2 + 2 ≤ _), (by decide : 5 + 36 ≤ _)⟩)
          dsimp only [Pt.U, Pt.locs, Pt.cells, Pt.slots] at X_155 l_155 y_155 z_155 st_155 hQ_155
          obtain rfl : kc_155 = 4 := y_155
          obtain rfl : nc_155 = 41 := z_155
          dsimp only [Pt.U, Pt.locs, Pt.cells, Pt.slots] at sn_155 gg_155 CH_155
          obtain ⟨X_155, HE_155, hZ, hown⟩ := OwnH.call HE_153 e_153 X_155 sn_155 gg_155 hZ hown CH_155
          obtain ⟨h_155, e_155⟩ : ∃ hh, T_155.heap = hh := ⟨_, rfl⟩
          rw [e_155] at hQ_155 HE_155 CH_155
          obtain ⟨rfl, N_155q, K_155⟩ := hQ_155
          have N_155 : Fr n0 L_155 := by rw [l_155]; exact Fr.app N_153 N_155q
          refine GoS.st (fun _ kk => st_155.trans kk) ?_
          have KK_155 : Keep h0 h_155 [] := KK_153.trans K_155 all0
          have z_155q : n0 ≤ h_155.size := Nat.le_trans z_153q K_155.1
          have ns_155 : ∀ x ∈ ([] : List Addr), ∀ cell : Cell, h_153[x]? = some cell → cell.vm.isStatics = false := all0
          show GoS p e below s _ _ _ _ _ T_155 (mkF m 111 #[.val (.int na), .val (.int nb), .val (.int ch_1), .val (.int rr_149), .val (.int (46 : Int32)), .val (.int (0 : Int32)), .val (.int (0 : Int32))] [(.int (1 : Int32))])
          exact GoS.retZ hZ hEL HE_155 e_155 X_155 hx hlk Bd.returns (hb hby at_111) rfl (by rw [e_155]; exact ⟨rfl, N_155⟩) (by decide) (by decide)
        · refine GoS.st (fun _ => XS.ifYes X0.here hx rfl (pc0 := 14) (pc' := 22) rfl (hb hby at_14) rfl ((if0 _ _).trans (feq hc_150).2) (by decide) (by decide)) ?_
          show GoS p e below s _ _ _ _ _ s₁ (mkF m 22 #[.val (.int na), .val (.int nb), .val (.int ch_1), .val (.int rr_149), .unset, .unset, .unset] [])
          refine GoS.st (fun _ => XS.iloadN X0.here hx rfl (hb hby at_22) rfl) ?_
          show GoS p e below s _ _ _ _ _ s₁ (mkF m 23 #[.val (.int na), .val (.int nb), .val (.int ch_1), .val (.int rr_149), .unset, .unset, .unset] [(.int rr_149)])
          refine GoS.st (fun _ => XS.iconst X0.here hx rfl (hb hby at_23)) ?_
          show GoS p e below s _ _ _ _ _ s₁ (mkF m 24 #[.val (.int na), .val (.int nb), .val (.int ch_1), .val (.int rr_149), .unset, .unset, .unset] [(.int (1 : Int32)), (.int rr_149)])
          by_cases hc_158 : rr_149 = (1 : Int32)
          · refine GoS.st (fun _ => XS.icmpNo X0.here hx rfl (hb hby at_24) rfl (teq hc_158).2) ?_
            show GoS p e below s _ _ _ _ _ s₁ (mkF m 27 #[.val (.int na), .val (.int nb), .val (.int ch_1), .val (.int rr_149), .unset, .unset, .unset] [])
            refine GoS.st (fun _ => XS.bipush X0.here hx rfl (hb hby at_27)) ?_
            show GoS p e below s _ _ _ _ _ s₁ (mkF m 29 #[.val (.int na), .val (.int nb), .val (.int ch_1), .val (.int rr_149), .unset, .unset, .unset] [(.int (95 : Int32))])
            refine GoS.st (fun _ => XS.goto X0.here hx rfl (pc0 := 29) (pc' := 34) rfl (hb hby at_29) (by decide) (by decide)) ?_
            show GoS p e below s _ _ _ _ _ s₁ (mkF m 34 #[.val (.int na), .val (.int nb), .val (.int ch_1), .val (.int rr_149), .unset, .unset, .unset] [(.int (95 : Int32))])
            refine GoS.st (fun _ => XS.istore X0.here hx rfl (hb hby at_34) rfl (l' := #[.val (.int na), .val (.int nb), .val (.int ch_1), .val (.int rr_149), .val (.int (95 : Int32)), .unset, .unset]) rfl) ?_
            show GoS p e below s _ _ _ _ _ s₁ (mkF m 36 #[.val (.int na), .val (.int nb), .val (.int ch_1), .val (.int rr_149), .val (.int (95 : Int32)), .unset, .unset] [])
            refine GoS.st (fun _ => XS.iloadN X0.here hx rfl (hb hby at_36) rfl) ?_
            show GoS p e below s _ _ _ _ _ s₁ (mkF m 37 #[.val (.int na), .val (.int nb), .val (.int ch_1), .val (.int rr_149), .val (.int (95 : Int32)), .unset, .unset] [(.int ch_1)])
            obtain ⟨_, _, ⟨T_159, L_159, kc_159, nc_159⟩, -, X_159, ⟨Lc_159, hQ_159, l_159, y_159, z_159⟩, st_159⟩ := Jvm.LawKit.callS X0 hx (y := (⟨"com/example/contextwire/contextwire/RequestId", "isNodeEnd", "(C)Z"⟩ : MethodName)) hown (mvT hZ (hw _ (List.mem_of_getElem? (i := 2) rfl))) (mvT hZ (hw _ (List.mem_of_getElem? (i := 3) rfl))) (mvT hZ (hw _ (List.mem_of_getElem? (i := 4) rfl))) (mvT hZ (hw _ (List.mem_of_getElem? (i := 5) rfl))) (by decide) (backOf (W := 0) (rmNeN l Z a0 hw [] ch_1 h0 n0 Z0 hc_2 hc_51 hc_100) hZ (hw _ (List.mem_of_getElem? (i := 5) rfl)) (hw _ (List.mem_of_getElem? (i := 4) rfl)) (by decide) (by decide)) (g := (mkF m 37 #[.val (.int na), .val (.int nb), .val (.int ch_1), .val (.int rr_149), .val (.int (95 : Int32)), .unset, .unset] [(.int ch_1)])) rfl (by rw [hml]; rfl) (argsL := [(.int ch_1)]) (rest := []) (lenOf pd_0 rfl) rfl (by show 2 * 0 + _ ≤ _; exact Nat.le_of_eq rfl) (hb hby at_37) (fun _ _ => ⟨rfl, e0, (by decide : 0 + 0 ≤ _), (by decide : 0 + 0 ≤ _)⟩)
            dsimp only [Pt.U, Pt.locs, Pt.cells, Pt.slots] at X_159 l_159 y_159 z_159 st_159 hQ_159
            obtain rfl : kc_159 = 0 := y_159
            obtain rfl : nc_159 = 0 := z_159
            obtain ⟨h_159, e_159⟩ : ∃ hh, T_159.heap = hh := ⟨_, rfl⟩
            rw [e_159] at hQ_159
            obtain ⟨rfl, N_159q, sm_159⟩ := hQ_159
            have N_159 : Fr n0 L_159 := by rw [l_159]; exact Fr.app N0 N_159q
            refine GoS.st st_159 ?_
            rw [sm_159] at e_159
            show GoS p e below s _ _ _ _ _ T_159 (mkF m 40 #[.val (.int na), .val (.int nb), .val (.int ch_1), .val (.int rr_149), .val (.int (95 : Int32)), .unset, .unset] [(.int (0 : Int32))])
            refine GoS.st (fun _ => XS.istore X_159.here hx rfl (hb hby at_40) rfl (l' := #[.val (.int na), .val (.int nb), .val (.int ch_1), .val (.int rr_149), .val (.int (95 : Int32)), .val (.int (0 : Int32)), .unset]) rfl) ?_
            show GoS p e below s _ _ _ _ _ T_159 (mkF m 42 #[.val (.int na), .val (.int nb), .val (.int ch_1), .val (.int rr_149), .val (.int (95 : Int32)), .val (.int (0 : Int32)), .unset] [])
            refine GoS.st (fun _ => XS.iloadN X_159.here hx rfl (hb hby at_42) rfl) ?_
            show GoS p e below s _ _ _ _ _ T_159 (mkF m 43 #[.val (.int na), .val (.int nb), .val (.int ch_1), .val (.int rr_149), .val (.int (95 : Int32)), .val (.int (0 : Int32)), .unset] [(.int ch_1)])
            refine GoS.st (fun _ => XS.bipush X_159.here hx rfl (hb hby at_43)) ?_
            show GoS p e below s _ _ _ _ _ T_159 (mkF m 45 #[.val (.int na), .val (.int nb), .val (.int ch_1), .val (.int rr_149), .val (.int (95 : Int32)), .val (.int (0 : Int32)), .unset] [(.int (46 : Int32)), (.int ch_1)])
            refine GoS.st (fun _ => XS.icmpNo X_159.here hx rfl (hb hby at_45) rfl (feq hc_2).1) ?_
            show GoS p e below s _ _ _ _ _ T_159 (mkF m 48 #[.val (.int na), .val (.int nb), .val (.int ch_1), .val (.int rr_149), .val (.int (95 : Int32)), .val (.int (0 : Int32)), .unset] [])
            refine GoS.st (fun _ => XS.iloadN X_159.here hx rfl (hb hby at_48) rfl) ?_
            show GoS p e below s _ _ _ _ _ T_159 (mkF m 49 #[.val (.int na), .val (.int nb), .val (.int ch_1), .val (.int rr_149), .val (.int (95 : Int32)), .val (.int (0 : Int32)), .unset] [(.int ch_1)])
            refine GoS.st (fun _ => XS.bipush X_159.here hx rfl (hb hby at_49)) ?_
            show GoS p e below s _ _ _ _ _ T_159 (mkF m 51 #[.val (.int na), .val (.int nb), .val (.int ch_1), .val (.int rr_149), .val (.int (95 : Int32)), .val (.int (0 : Int32)), .unset] [(.int (95 : Int32)), (.int ch_1)])
            refine GoS.st (fun _ => XS.icmpNo X_159.here hx rfl (hb hby at_51) rfl (feq hc_51).1) ?_
            show GoS p e below s _ _ _ _ _ T_159 (mkF m 54 #[.val (.int na), .val (.int nb), .val (.int ch_1), .val (.int rr_149), .val (.int (95 : Int32)), .val (.int (0 : Int32)), .unset] [])
            refine GoS.st (fun _ => XS.iloadN X_159.here hx rfl (hb hby at_54) rfl) ?_
            show GoS p e below s _ _ _ _ _ T_159 (mkF m 55 #[.val (.int na), .val (.int nb), .val (.int ch_1), .val (.int rr_149), .val (.int (95 : Int32)), .val (.int (0 : Int32)), .unset] [(.int ch_1)])
            refine GoS.st (fun _ => XS.bipush X_159.here hx rfl (hb hby at_55)) ?_
            show GoS p e below s _ _ _ _ _ T_159 (mkF m 57 #[.val (.int na), .val (.int nb), .val (.int ch_1), .val (.int rr_149), .val (.int (95 : Int32)), .val (.int (0 : Int32)), .unset] [(.int (35 : Int32)), (.int ch_1)])
            refine GoS.st (fun _ => XS.icmpYes X_159.here hx rfl (pc0 := 57) (pc' := 64) rfl (hb hby at_57) rfl (feq hc_100).2 (by decide) (by decide)) ?_
            show GoS p e below s _ _ _ _ _ T_159 (mkF m 64 #[.val (.int na), .val (.int nb), .val (.int ch_1), .val (.int rr_149), .val (.int (95 : Int32)), .val (.int (0 : Int32)), .unset] [])
            refine GoS.st (fun _ => XS.iconst X_159.here hx rfl (hb hby at_64)) ?_
            show GoS p e below s _ _ _ _ _ T_159 (mkF m 65 #[.val (.int na), .val (.int nb), .val (.int ch_1), .val (.int rr_149), .val (.int (95 : Int32)), .val (.int (0 : Int32)), .unset] [(.int (0 : Int32))])
            refine GoS.st (fun _ => XS.istore X_159.here hx rfl (hb hby at_65) rfl (l' := #[.val (.int na), .val (.int nb), .val (.int ch_1), .val (.int rr_149), .val (.int (95 : Int32)), .val (.int (0 : Int32)), .val (.int (0 : Int32))]) rfl) ?_
            show GoS p e below s _ _ _ _ _ T_159 (mkF m 67 #[.val (.int na), .val (.int nb), .val (.int ch_1), .val (.int rr_149), .val (.int (95 : Int32)), .val (.int (0 : Int32)), .val (.int (0 : Int32))] [])
            refine GoS.st (fun _ => XS.iload X_159.here hx rfl (hb hby at_67) rfl) ?_
            show GoS p e below s _ _ _ _ _ T_159 (mkF m 69 #[.val (.int na), .val (.int nb), .val (.int ch_1), .val (.int rr_149), .val (.int (95 : Int32)), .val (.int (0 : Int32)), .val (.int (0 : Int32))] [(.int (0 : Int32))])
            refine GoS.st (fun _ => XS.iload X_159.here hx rfl (hb hby at_69) rfl) ?_
            show GoS p e below s _ _ _ _ _ T_159 (mkF m 71 #[.val (.int na), .val (.int nb), .val (.int ch_1), .val (.int rr_149), .val (.int (95 : Int32)), .val (.int (0 : Int32)), .val (.int (0 : Int32))] [(.int (0 : Int32)), (.int (0 : Int32))])
            refine GoS.st (fun _ => XS.icmpYes X_159.here hx rfl (pc0 := 71) (pc' := 76) rfl (hb hby at_71) rfl (teq (by decide : (0 : Int32) = (0 : Int32))).1 (by decide) (by decide)) ?_
            show GoS p e below s _ _ _ _ _ T_159 (mkF m 76 #[.val (.int na), .val (.int nb), .val (.int ch_1), .val (.int rr_149), .val (.int (95 : Int32)), .val (.int (0 : Int32)), .val (.int (0 : Int32))] [])
            refine GoS.st (fun _ => XS.iload X_159.here hx rfl (hb hby at_76) rfl) ?_
            show GoS p e below s _ _ _ _ _ T_159 (mkF m 78 #[.val (.int na), .val (.int nb), .val (.int ch_1), .val (.int rr_149), .val (.int (95 : Int32)), .val (.int (0 : Int32)), .val (.int (0 : Int32))] [(.int (0 : Int32))])
            refine GoS.st (fun _ => XS.ifYes X_159.here hx rfl (pc0 := 78) (pc' := 93) rfl (hb hby at_78) rfl ((if0 _ _).trans (teq (by decide : (0 : Int32) = (0 : Int32))).1) (by decide) (by decide)) ?_
            show GoS p e below s _ _ _ _ _ T_159 (mkF m 93 #[.val (.int na), .val (.int nb), .val (.int ch_1), .val (.int rr_149), .val (.int (95 : Int32)), .val (.int (0 : Int32)), .val (.int (0 : Int32))] [])
            refine GoS.st (fun _ => XS.iload X_159.here hx rfl (hb hby at_93) rfl) ?_
            show GoS p e below s _ _ _ _ _ T_159 (mkF m 95 #[.val (.int na), .val (.int nb), .val (.int ch_1), .val (.int rr_149), .val (.int (95 : Int32)), .val (.int (0 : Int32)), .val (.int (0 : Int32))] [(.int (95 : Int32))])
            obtain ⟨_, _, ⟨T_160, L_160, kc_160, nc_160⟩, -, X_160, ⟨Lc_160, hQ_160, l_160, y_160, z_160⟩, st_160⟩ := Jvm.LawKit.callS X_159 hx (y := (⟨"com/example/contextwire/contextwire/RequestId", "isNodeEnd", "(C)Z"⟩ : MethodName)) hown (mvT hZ (hw _ (List.mem_of_getElem? (i := 2) rfl))) (mvT hZ (hw _ (List.mem_of_getElem? (i := 3) rfl))) (mvT hZ (hw _ (List.mem_of_getElem? (i := 4) rfl))) (mvT hZ (hw _ (List.mem_of_getElem? (i := 5) rfl))) (by decide) (backOf (W := 0) (rmNe95 l Z a0 hw []  h0 n0 Z0 ) hZ (hw _ (List.mem_of_getElem? (i := 5) rfl)) (hw _ (List.mem_of_getElem? (i := 4) rfl)) (by decide) (by decide)) (g := (mkF m 95 #[.val (.int na), .val (.int nb), .val (.int ch_1), .val (.int rr_149), .val (.int (95 : Int32)), .val (.int (0 : Int32)), .val (.int (0 : Int32))] [(.int (95 : Int32))])) rfl (by rw [hml]; rfl) (argsL := [(.int (95 : Int32))]) (rest := []) (lenOf pd_0 rfl) rfl (by show 2 * 0 + _ ≤ _; exact Nat.le_of_eq rfl) (hb hby at_95) (fun _ _ => ⟨rfl, e_159, (by decide : 0 + 0 ≤ _), (by decide : 0 + 0 ≤ _)⟩)
            dsimp only [Pt.U, Pt.locs, Pt.cells, Pt.slots] at X_160 l_160 y_160 z_160 st_160 hQ_160
            obtain rfl : kc_160 = 0 := y_160
            obtain rfl : nc_160 = 0 := z_160
            obtain ⟨h_160, e_160⟩ : ∃ hh, T_160.heap = hh := ⟨_, rfl⟩
            rw [e_160] at hQ_160
            obtain ⟨rfl, N_160q, sm_160⟩ := hQ_160
            have N_160 : Fr n0 L_160 := by rw [l_160]; exact Fr.app N_159 N_160q
            refine GoS.st st_160 ?_
            rw [sm_160] at e_160
            show GoS p e below s _ _ _ _ _ T_160 (mkF m 98 #[.val (.int na), .val (.int nb), .val (.int ch_1), .val (.int rr_149), .val (.int (95 : Int32)), .val (.int (0 : Int32)), .val (.int (0 : Int32))] [(.int (1 : Int32))])
            refine GoS.st (fun _ => XS.ifYes X_160.here hx rfl (pc0 := 98) (pc' := 103) rfl (hb hby at_98) rfl ((if0 _ _).trans (feq (by decide : ¬ ((1 : Int32) = (0 : Int32)))).2) (by decide) (by decide)) ?_
            show GoS p e below s _ _ _ _ _ T_160 (mkF m 103 #[.val (.int na), .val (.int nb), .val (.int ch_1), .val (.int rr_149), .val (.int (95 : Int32)), .val (.int (0 : Int32)), .val (.int (0 : Int32))] [])
            refine GoS.st (fun _ => XS.iload X_160.here hx rfl (hb hby at_103) rfl) ?_
            show GoS p e below s _ _ _ _ _ T_160 (mkF m 105 #[.val (.int na), .val (.int nb), .val (.int ch_1), .val (.int rr_149), .val (.int (95 : Int32)), .val (.int (0 : Int32)), .val (.int (0 : Int32))] [(.int (95 : Int32))])
            obtain ⟨_, _, ⟨T_161, L_161, kc_161, nc_161⟩, -, X_161, ⟨Lc_161, hQ_161, l_161, y_161, z_161⟩, st_161⟩ := Jvm.LawKit.callS X_160 hx (y := (⟨"java/lang/String", "valueOf", "(C)Ljava/lang/String;"⟩ : MethodName)) hown (mvT hZ (hw _ (List.mem_of_getElem? (i := 6) rfl))) (mvT hZ (hw _ (List.mem_of_getElem? (i := 7) rfl))) (mvT hZ (hw _ (List.mem_of_getElem? (i := 8) rfl))) (mvT hZ (hw _ (List.mem_of_getElem? (i := 9) rfl))) (by decide) (backOf (W := 0) (rmVo l Z a0 hw [] (95 : Int32) cs h0 n0 Z0 S_COMPACT_STRINGS hcs (by decide)) hZ (hw _ (List.mem_of_getElem? (i := 9) rfl)) (hw _ (List.mem_of_getElem? (i := 8) rfl)) (by decide) (by decide)) (g := (mkF m 105 #[.val (.int na), .val (.int nb), .val (.int ch_1), .val (.int rr_149), .val (.int (95 : Int32)), .val (.int (0 : Int32)), .val (.int (0 : Int32))] [(.int (95 : Int32))])) rfl (by rw [hml]; rfl) (argsL := [(.int (95 : Int32))]) (rest := []) (lenOf pd_14 rfl) rfl (by show 2 * 0 + _ ≤ _; exact Nat.le_of_eq rfl) (hb hby at_105) (fun _ _ => ⟨rfl, e_160, (by decide : 0 + 2 ≤ _), (by decide : 0 + 5 ≤ _)⟩)
            dsimp only [Pt.U, Pt.locs, Pt.cells, Pt.slots] at X_161 l_161 y_161 z_161 st_161 hQ_161
            obtain rfl : kc_161 = 2 := y_161
            obtain rfl : nc_161 = 5 := z_161
            obtain ⟨h_161, e_161⟩ : ∃ hh, T_161.heap = hh := ⟨_, rfl⟩
            rw [e_161] at hQ_161
            obtain ⟨b__161, d__161, kd__161, rfl, N_161q, K_161, p_161_0, p_161_1, p_161_2, p_161_3, p_161_4, p_161_5, p_161_6, p_161_7, p_161_8⟩ := hQ_161
            have N_161 : Fr n0 L_161 := by rw [l_161]; exact Fr.app N_160 N_161q
            refine GoS.st st_161 ?_
            have KK_161 : Keep h0 h_161 [] := (Keep.refl h0 []).trans K_161 all0
            have z_161q : n0 ≤ h_161.size := Nat.le_trans Z0 K_161.1
            have ns_161 : ∀ x ∈ ([] : List Addr), ∀ cell : Cell, h0[x]? = some cell → cell.vm.isStatics = false := all0
            have HE_161 := HE0.keep K_161 sf0
            have sz_161_0 : h0.size ≤ b__161 := Nat.le_trans (Keep.refl h0 []).1 p_161_0
            have sz_161_5 : h0.size ≤ d__161 := Nat.le_trans (Keep.refl h0 []).1 p_161_5
            show GoS p e below s _ _ _ _ _ T_161 (mkF m 108 #[.val (.int na), .val (.int nb), .val (.int ch_1), .val (.int rr_149), .val (.int (95 : Int32)), .val (.int (0 : Int32)), .val (.int (0 : Int32))] [(.ref b__161)])
            have W_162 := p_161_7
            rw [show ((95 : Int32)).toInt8.toInt32 = (95 : Int32) from by decide] at W_162
            have f_164 := (own_sta_keep S_COMPACT_STRINGS K_161 ns_161)
            have f_165 := (own_sta_keep S_SIOOBE_FORMATTER K_161 ns_161)
            obtain ⟨_, _, ⟨T_163, L_163, kc_163, nc_163⟩, -, X_163, sn_163, gg_163, ⟨Lc_163, hQ_163, l_163, y_163, z_163, CH_163⟩, st_163⟩ := callSS X_161 hx (y := (⟨"com/example/contextwire/contextwire/RequestId", "isValid", "(Ljava/lang/String;)Z"⟩ : MethodName)) hown (mvT hZ (hw _ (List.mem_of_getElem? (i := 32) rfl))) (mvT hZ (hw _ (List.mem_of_getElem? (i := 33) rfl))) (mvT hZ (hw _ (List.mem_of_getElem? (i := 4) rfl))) (mvT hZ (hw _ (List.mem_of_getElem? (i := 34) rfl))) (by decide) (backOfSH (s := s) (vm0 := s.vm) (W := 0) (rmVa95 l Z a0 hw [] b__161 cs d__161 kd__161 fm h_161 n0 z_161q f_164 hcs f_165 rf_fm p_161_2 p_161_4 p_161_3 W_162) hZ (hw _ (List.mem_of_getElem? (i := 34) rfl)) (hw _ (List.mem_of_getElem? (i := 4) rfl)) (by decide) (by decide) hEL HE_161.chv) (g := (mkF m 108 #[.val (.int na), .val (.int nb), .val (.int ch_1), .val (.int rr_149), .val (.int (95 : Int32)), .val (.int (0 : Int32)), .val (.int (0 : Int32))] [(.ref b__161)])) rfl (by rw [hml]; rfl) (argsL := [(.ref b__161)]) (rest := []) (lenOf pd_15 rfl) rfl (by show 2 * 0 + _ ≤ _; exact Nat.le_of_eq rfl) (hb hby at_108) (fun _ _ => ⟨rfl, e_161, (by decide : 2 + 2 ≤ _), (by decide : 5 + 36 ≤ _)⟩)
            dsimp only [Pt.U, Pt.locs, Pt.cells, Pt.slots] at X_163 l_163 y_163 z_163 st_163 hQ_163
            obtain rfl : kc_163 = 4 := y_163
            obtain rfl : nc_163 = 41 := z_163
            dsimp only [Pt.U, Pt.locs, Pt.cells, Pt.slots] at sn_163 gg_163 CH_163
            obtain ⟨X_163, HE_163, hZ, hown⟩ := OwnH.call HE_161 e_161 X_163 sn_163 gg_163 hZ hown CH_163
            obtain ⟨h_163, e_163⟩ : ∃ hh, T_163.heap = hh := ⟨_, rfl⟩
            rw [e_163] at hQ_163 HE_163 CH_163
            obtain ⟨rfl, N_163q, K_163⟩ := hQ_163
            have N_163 : Fr n0 L_163 := by rw [l_163]; exact Fr.app N_161 N_163q
            refine GoS.st (fun _ kk => st_163.trans kk) ?_
            have KK_163 : Keep h0 h_163 [] := KK_161.trans K_163 all0
            have z_163q : n0 ≤ h_163.size := Nat.le_trans z_161q K_163.1
            have ns_163 : ∀ x ∈ ([] : List Addr), ∀ cell : Cell, h_161[x]? = some cell → cell.vm.isStatics = false := all0
            show GoS p e below s _ _ _ _ _ T_163 (mkF m 111 #[.val (.int na), .val (.int nb), .val (.int ch_1), .val (.int rr_149), .val (.int (95 : Int32)), .val (.int (0 : Int32)), .val (.int (0 : Int32))] [(.int (1 : Int32))])
            exact GoS.retZ hZ hEL HE_163 e_163 X_163 hx hlk Bd.returns (hb hby at_111) rfl (by rw [e_163]; exact ⟨rfl, N_163⟩) (by decide) (by decide)
          · refine GoS.st (fun _ => XS.icmpYes X0.here hx rfl (pc0 := 24) (pc' := 32) rfl (hb hby at_24) rfl (feq hc_158).2 (by decide) (by decide)) ?_
            show GoS p e below s _ _ _ _ _ s₁ (mkF m 32 #[.val (.int na), .val (.int nb), .val (.int ch_1), .val (.int rr_149), .unset, .unset, .unset] [])
            refine GoS.st (fun _ => XS.bipush X0.here hx rfl (hb hby at_32)) ?_
            show GoS p e below s _ _ _ _ _ s₁ (mkF m 34 #[.val (.int na), .val (.int nb), .val (.int ch_1), .val (.int rr_149), .unset, .unset, .unset] [(.int (35 : Int32))])
            refine GoS.st (fun _ => XS.istore X0.here hx rfl (hb hby at_34) rfl (l' := #[.val (.int na), .val (.int nb), .val (.int ch_1), .val (.int rr_149), .val (.int (35 : Int32)), .unset, .unset]) rfl) ?_
            show GoS p e below s _ _ _ _ _ s₁ (mkF m 36 #[.val (.int na), .val (.int nb), .val (.int ch_1), .val (.int rr_149), .val (.int (35 : Int32)), .unset, .unset] [])
            refine GoS.st (fun _ => XS.iloadN X0.here hx rfl (hb hby at_36) rfl) ?_
            show GoS p e below s _ _ _ _ _ s₁ (mkF m 37 #[.val (.int na), .val (.int nb), .val (.int ch_1), .val (.int rr_149), .val (.int (35 : Int32)), .unset, .unset] [(.int ch_1)])
            obtain ⟨_, _, ⟨T_166, L_166, kc_166, nc_166⟩, -, X_166, ⟨Lc_166, hQ_166, l_166, y_166, z_166⟩, st_166⟩ := Jvm.LawKit.callS X0 hx (y := (⟨"com/example/contextwire/contextwire/RequestId", "isNodeEnd", "(C)Z"⟩ : MethodName)) hown (mvT hZ (hw _ (List.mem_of_getElem? (i := 2) rfl))) (mvT hZ (hw _ (List.mem_of_getElem? (i := 3) rfl))) (mvT hZ (hw _ (List.mem_of_getElem? (i := 4) rfl))) (mvT hZ (hw _ (List.mem_of_getElem? (i := 5) rfl))) (by decide) (backOf (W := 0) (rmNeN l Z a0 hw [] ch_1 h0 n0 Z0 hc_2 hc_51 hc_100) hZ (hw _ (List.mem_of_getElem? (i := 5) rfl)) (hw _ (List.mem_of_getElem? (i := 4) rfl)) (by decide) (by decide)) (g := (mkF m 37 #[.val (.int na), .val (.int nb), .val (.int ch_1), .val (.int rr_149), .val (.int (35 : Int32)), .unset, .unset] [(.int ch_1)])) rfl (by rw [hml]; rfl) (argsL := [(.int ch_1)]) (rest := []) (lenOf pd_0 rfl) rfl (by show 2 * 0 + _ ≤ _; exact Nat.le_of_eq rfl) (hb hby at_37) (fun _ _ => ⟨rfl, e0, (by decide : 0 + 0 ≤ _), (by decide : 0 + 0 ≤ _)⟩)
            dsimp only [Pt.U, Pt.locs, Pt.cells, Pt.slots] at X_166 l_166 y_166 z_166 st_166 hQ_166
            obtain rfl : kc_166 = 0 := y_166
            obtain rfl : nc_166 = 0 := z_166
            obtain ⟨h_166, e_166⟩ : ∃ hh, T_166.heap = hh := ⟨_, rfl⟩
            rw [e_166] at hQ_166
            obtain ⟨rfl, N_166q, sm_166⟩ := hQ_166
            have N_166 : Fr n0 L_166 := by rw [l_166]; exact Fr.app N0 N_166q
            refine GoS.st st_166 ?_
            rw [sm_166] at e_166
            show GoS p e below s _ _ _ _ _ T_166 (mkF m 40 #[.val (.int na), .val (.int nb), .val (.int ch_1), .val (.int rr_149), .val (.int (35 : Int32)), .unset, .unset] [(.int (0 : Int32))])
            refine GoS.st (fun _ => XS.istore X_166.here hx rfl (hb hby at_40) rfl (l' := #[.val (.int na), .val (.int nb), .val (.int ch_1), .val (.int rr_149), .val (.int (35 : Int32)), .val (.int (0 : Int32)), .unset]) rfl) ?_
            show GoS p e below s _ _ _ _ _ T_166 (mkF m 42 #[.val (.int na), .val (.int nb), .val (.int ch_1), .val (.int rr_149), .val (.int (35 : Int32)), .val (.int (0 : Int32)), .unset] [])
            refine GoS.st (fun _ => XS.iloadN X_166.here hx rfl (hb hby at_42) rfl) ?_
            show GoS p e below s _ _ _ _ _ T_166 (mkF m 43 #[.val (.int na), .val (.int nb), .val (.int ch_1), .val (.int rr_149), .val (.int (35 : Int32)), .val (.int (0 : Int32)), .unset] [(.int ch_1)])
            refine GoS.st (fun _ => XS.bipush X_166.here hx rfl (hb hby at_43)) ?_
            show GoS p e below s _ _ _ _ _ T_166 (mkF m 45 #[.val (.int na), .val (.int nb), .val (.int ch_1), .val (.int rr_149), .val (.int (35 : Int32)), .val (.int (0 : Int32)), .unset] [(.int (46 : Int32)), (.int ch_1)])
            refine GoS.st (fun _ => XS.icmpNo X_166.here hx rfl (hb hby at_45) rfl (feq hc_2).1) ?_
            show GoS p e below s _ _ _ _ _ T_166 (mkF m 48 #[.val (.int na), .val (.int nb), .val (.int ch_1), .val (.int rr_149), .val (.int (35 : Int32)), .val (.int (0 : Int32)), .unset] [])
            refine GoS.st (fun _ => XS.iloadN X_166.here hx rfl (hb hby at_48) rfl) ?_
            show GoS p e below s _ _ _ _ _ T_166 (mkF m 49 #[.val (.int na), .val (.int nb), .val (.int ch_1), .val (.int rr_149), .val (.int (35 : Int32)), .val (.int (0 : Int32)), .unset] [(.int ch_1)])
            refine GoS.st (fun _ => XS.bipush X_166.here hx rfl (hb hby at_49)) ?_
            show GoS p e below s _ _ _ _ _ T_166 (mkF m 51 #[.val (.int na), .val (.int nb), .val (.int ch_1), .val (.int rr_149), .val (.int (35 : Int32)), .val (.int (0 : Int32)), .unset] [(.int (95 : Int32)), (.int ch_1)])
            refine GoS.st (fun _ => XS.icmpNo X_166.here hx rfl (hb hby at_51) rfl (feq hc_51).1) ?_
            show GoS p e below s _ _ _ _ _ T_166 (mkF m 54 #[.val (.int na), .val (.int nb), .val (.int ch_1), .val (.int rr_149), .val (.int (35 : Int32)), .val (.int (0 : Int32)), .unset] [])
            refine GoS.st (fun _ => XS.iloadN X_166.here hx rfl (hb hby at_54) rfl) ?_
            show GoS p e below s _ _ _ _ _ T_166 (mkF m 55 #[.val (.int na), .val (.int nb), .val (.int ch_1), .val (.int rr_149), .val (.int (35 : Int32)), .val (.int (0 : Int32)), .unset] [(.int ch_1)])
            refine GoS.st (fun _ => XS.bipush X_166.here hx rfl (hb hby at_55)) ?_
            show GoS p e below s _ _ _ _ _ T_166 (mkF m 57 #[.val (.int na), .val (.int nb), .val (.int ch_1), .val (.int rr_149), .val (.int (35 : Int32)), .val (.int (0 : Int32)), .unset] [(.int (35 : Int32)), (.int ch_1)])
            refine GoS.st (fun _ => XS.icmpYes X_166.here hx rfl (pc0 := 57) (pc' := 64) rfl (hb hby at_57) rfl (feq hc_100).2 (by decide) (by decide)) ?_
            show GoS p e below s _ _ _ _ _ T_166 (mkF m 64 #[.val (.int na), .val (.int nb), .val (.int ch_1), .val (.int rr_149), .val (.int (35 : Int32)), .val (.int (0 : Int32)), .unset] [])
            refine GoS.st (fun _ => XS.iconst X_166.here hx rfl (hb hby at_64)) ?_
            show GoS p e below s _ _ _ _ _ T_166 (mkF m 65 #[.val (.int na), .val (.int nb), .val (.int ch_1), .val (.int rr_149), .val (.int (35 : Int32)), .val (.int (0 : Int32)), .unset] [(.int (0 : Int32))])
            refine GoS.st (fun _ => XS.istore X_166.here hx rfl (hb hby at_65) rfl (l' := #[.val (.int na), .val (.int nb), .val (.int ch_1), .val (.int rr_149), .val (.int (35 : Int32)), .val (.int (0 : Int32)), .val (.int (0 : Int32))]) rfl) ?_
            show GoS p e below s _ _ _ _ _ T_166 (mkF m 67 #[.val (.int na), .val (.int nb), .val (.int ch_1), .val (.int rr_149), .val (.int (35 : Int32)), .val (.int (0 : Int32)), .val (.int (0 : Int32))] [])
            refine GoS.st (fun _ => XS.iload X_166.here hx rfl (hb hby at_67) rfl) ?_
            show GoS p e below s _ _ _ _ _ T_166 (mkF m 69 #[.val (.int na), .val (.int nb), .val (.int ch_1), .val (.int rr_149), .val (.int (35 : Int32)), .val (.int (0 : Int32)), .val (.int (0 : Int32))] [(.int (0 : Int32))])
            refine GoS.st (fun _ => XS.iload X_166.here hx rfl (hb hby at_69) rfl) ?_
            show GoS p e below s _ _ _ _ _ T_166 (mkF m 71 #[.val (.int na), .val (.int nb), .val (.int ch_1), .val (.int rr_149), .val (.int (35 : Int32)), .val (.int (0 : Int32)), .val (.int (0 : Int32))] [(.int (0 : Int32)), (.int (0 : Int32))])
            refine GoS.st (fun _ => XS.icmpYes X_166.here hx rfl (pc0 := 71) (pc' := 76) rfl (hb hby at_71) rfl (teq (by decide : (0 : Int32) = (0 : Int32))).1 (by decide) (by decide)) ?_
            show GoS p e below s _ _ _ _ _ T_166 (mkF m 76 #[.val (.int na), .val (.int nb), .val (.int ch_1), .val (.int rr_149), .val (.int (35 : Int32)), .val (.int (0 : Int32)), .val (.int (0 : Int32))] [])
            refine GoS.st (fun _ => XS.iload X_166.here hx rfl (hb hby at_76) rfl) ?_
            show GoS p e below s _ _ _ _ _ T_166 (mkF m 78 #[.val (.int na), .val (.int nb), .val (.int ch_1), .val (.int rr_149), .val (.int (35 : Int32)), .val (.int (0 : Int32)), .val (.int (0 : Int32))] [(.int (0 : Int32))])
            refine GoS.st (fun _ => XS.ifYes X_166.here hx rfl (pc0 := 78) (pc' := 93) rfl (hb hby at_78) rfl ((if0 _ _).trans (teq (by decide : (0 : Int32) = (0 : Int32))).1) (by decide) (by decide)) ?_
            show GoS p e below s _ _ _ _ _ T_166 (mkF m 93 #[.val (.int na), .val (.int nb), .val (.int ch_1), .val (.int rr_149), .val (.int (35 : Int32)), .val (.int (0 : Int32)), .val (.int (0 : Int32))] [])
            refine GoS.st (fun _ => XS.iload X_166.here hx rfl (hb hby at_93) rfl) ?_
            show GoS p e below s _ _ _ _ _ T_166 (mkF m 95 #[.val (.int na), .val (.int nb), .val (.int ch_1), .val (.int rr_149), .val (.int (35 : Int32)), .val (.int (0 : Int32)), .val (.int (0 : Int32))] [(.int (35 : Int32))])
            obtain ⟨_, _, ⟨T_167, L_167, kc_167, nc_167⟩, -, X_167, ⟨Lc_167, hQ_167, l_167, y_167, z_167⟩, st_167⟩ := Jvm.LawKit.callS X_166 hx (y := (⟨"com/example/contextwire/contextwire/RequestId", "isNodeEnd", "(C)Z"⟩ : MethodName)) hown (mvT hZ (hw _ (List.mem_of_getElem? (i := 2) rfl))) (mvT hZ (hw _ (List.mem_of_getElem? (i := 3) rfl))) (mvT hZ (hw _ (List.mem_of_getElem? (i := 4) rfl))) (mvT hZ (hw _ (List.mem_of_getElem? (i := 5) rfl))) (by decide) (backOf (W := 0) (rmNe35 l Z a0 hw []  h0 n0 Z0 ) hZ (hw _ (List.mem_of_getElem? (i := 5) rfl)) (hw _ (List.mem_of_getElem? (i := 4) rfl)) (by decide) (by decide)) (g := (mkF m 95 #[.val (.int na), .val (.int nb), .val (.int ch_1), .val (.int rr_149), .val (.int (35 : Int32)), .val (.int (0 : Int32)), .val (.int (0 : Int32))] [(.int (35 : Int32))])) rfl (by rw [hml]; rfl) (argsL := [(.int (35 : Int32))]) (rest := []) (lenOf pd_0 rfl) rfl (by show 2 * 0 + _ ≤ _; exact Nat.le_of_eq rfl) (hb hby at_95) (fun _ _ => ⟨rfl, e_166, (by decide : 0 + 0 ≤ _), (by decide : 0 + 0 ≤ _)⟩)
            dsimp only [Pt.U, Pt.locs, Pt.cells, Pt.slots] at X_167 l_167 y_167 z_167 st_167 hQ_167
            obtain rfl : kc_167 = 0 := y_167
            obtain rfl : nc_167 = 0 := z_167
            obtain ⟨h_167, e_167⟩ : ∃ hh, T_167.heap = hh := ⟨_, rfl⟩
            rw [e_167] at hQ_167
            obtain ⟨rfl, N_167q, sm_167⟩ := hQ_167
            have N_167 : Fr n0 L_167 := by rw [l_167]; exact Fr.app N_166 N_167q
            refine GoS.st st_167 ?_
            rw [sm_167] at e_167
            show GoS p e below s _ _ _ _ _ T_167 (mkF m 98 #[.val (.int na), .val (.int nb), .val (.int ch_1), .val (.int rr_149), .val (.int (35 : Int32)), .val (.int (0 : Int32)), .val (.int (0 : Int32))] [(.int (1 : Int32))])
            refine GoS.st (fun _ => XS.ifYes X_167.here hx rfl (pc0 := 98) (pc' := 103) rfl (hb hby at_98) rfl ((if0 _ _).trans (feq (by decide : ¬ ((1 : Int32) = (0 : Int32)))).2) (by decide) (by decide)) ?_
            show GoS p e below s _ _ _ _ _ T_167 (mkF m 103 #[.val (.int na), .val (.int nb), .val (.int ch_1), .val (.int rr_149), .val (.int (35 : Int32)), .val (.int (0 : Int32)), .val (.int (0 : Int32))] [])
            refine GoS.st (fun _ => XS.iload X_167.here hx rfl (hb hby at_103) rfl) ?_
            show GoS p e below s _ _ _ _ _ T_167 (mkF m 105 #[.val (.int na), .val (.int nb), .val (.int ch_1), .val (.int rr_149), .val (.int (35 : Int32)), .val (.int (0 : Int32)), .val (.int (0 : Int32))] [(.int (35 : Int32))])
            obtain ⟨_, _, ⟨T_168, L_168, kc_168, nc_168⟩, -, X_168, ⟨Lc_168, hQ_168, l_168, y_168, z_168⟩, st_168⟩ := Jvm.LawKit.callS X_167 hx (y := (⟨"java/lang/String", "valueOf", "(C)Ljava/lang/String;"⟩ : MethodName)) hown (mvT hZ (hw _ (List.mem_of_getElem? (i := 6) rfl))) (mvT hZ (hw _ (List.mem_of_getElem? (i := 7) rfl))) (mvT hZ (hw _ (List.mem_of_getElem? (i := 8) rfl))) (mvT hZ (hw _ (List.mem_of_getElem? (i := 9) rfl))) (by decide) (backOf (W := 0) (rmVo l Z a0 hw [] (35 : Int32) cs h0 n0 Z0 S_COMPACT_STRINGS hcs (by decide)) hZ (hw _ (List.mem_of_getElem? (i := 9) rfl)) (hw _ (List.mem_of_getElem? (i := 8) rfl)) (by decide) (by decide)) (g := (mkF m 105 #[.val (.int na), .val (.int nb), .val (.int ch_1), .val (.int rr_149), .val (.int (35 : Int32)), .val (.int (0 : Int32)), .val (.int (0 : Int32))] [(.int (35 : Int32))])) rfl (by rw [hml]; rfl) (argsL := [(.int (35 : Int32))]) (rest := []) (lenOf pd_14 rfl) rfl (by show 2 * 0 + _ ≤ _; exact Nat.le_of_eq rfl) (hb hby at_105) (fun _ _ => ⟨rfl, e_167, (by decide : 0 + 2 ≤ _), (by decide : 0 + 5 ≤ _)⟩)
            dsimp only [Pt.U, Pt.locs, Pt.cells, Pt.slots] at X_168 l_168 y_168 z_168 st_168 hQ_168
            obtain rfl : kc_168 = 2 := y_168
            obtain rfl : nc_168 = 5 := z_168
            obtain ⟨h_168, e_168⟩ : ∃ hh, T_168.heap = hh := ⟨_, rfl⟩
            rw [e_168] at hQ_168
            obtain ⟨b__168, d__168, kd__168, rfl, N_168q, K_168, p_168_0, p_168_1, p_168_2, p_168_3, p_168_4, p_168_5, p_168_6, p_168_7, p_168_8⟩ := hQ_168
            have N_168 : Fr n0 L_168 := by rw [l_168]; exact Fr.app N_167 N_168q
            refine GoS.st st_168 ?_
            have KK_168 : Keep h0 h_168 [] := (Keep.refl h0 []).trans K_168 all0
            have z_168q : n0 ≤ h_168.size := Nat.le_trans Z0 K_168.1
            have ns_168 : ∀ x ∈ ([] : List Addr), ∀ cell : Cell, h0[x]? = some cell → cell.vm.isStatics = false := all0
            have HE_168 := HE0.keep K_168 sf0
            have sz_168_0 : h0.size ≤ b__168 := Nat.le_trans (Keep.refl h0 []).1 p_168_0
            have sz_168_5 : h0.size ≤ d__168 := Nat.le_trans (Keep.refl h0 []).1 p_168_5
            show GoS p e below s _ _ _ _ _ T_168 (mkF m 108 #[.val (.int na), .val (.int nb), .val (.int ch_1), .val (.int rr_149), .val (.int (35 : Int32)), .val (.int (0 : Int32)), .val (.int (0 : Int32))] [(.ref b__168)])
            have W_169 := p_168_7
            rw [show ((35 : Int32)).toInt8.toInt32 = (35 : Int32) from by decide] at W_169
            have f_171 := (own_sta_keep S_COMPACT_STRINGS K_168 ns_168)
            have f_172 := (own_sta_keep S_SIOOBE_FORMATTER K_168 ns_168)
            obtain ⟨_, _, ⟨T_170, L_170, kc_170, nc_170⟩, -, X_170, sn_170, gg_170, ⟨Lc_170, hQ_170, l_170, y_170, z_170, CH_170⟩, st_170⟩ := callSS X_168 hx (y := (⟨"com/example/contextwire/contextwire/RequestId", "isValid", "(Ljava/lang/String;)Z"⟩ : MethodName)) hown (mvT hZ (hw _ (List.mem_of_getElem? (i := 32) rfl))) (mvT hZ (hw _ (List.mem_of_getElem? (i := 33) rfl))) (mvT hZ (hw _ (List.mem_of_getElem? (i := 4) rfl))) (mvT hZ (hw _ (List.mem_of_getElem? (i := 34) rfl))) (by decide) (backOfSH (s := s) (vm0 := s.vm) (W := 0) (rmVa35 l Z a0 hw [] b__168 cs d__168 kd__168 fm h_168 n0 z_168q f_171 hcs f_172 rf_fm p_168_2 p_168_4 p_168_3 W_169) hZ (hw _ (List.mem_of_getElem? (i := 34) rfl)) (hw _ (List.mem_of_getElem? (i := 4) rfl)) (by decide) (by decide) hEL HE_168.chv) (g := (mkF m 108 #[.val (.int na), .val (.int nb), .val (.int ch_1), .val (.int rr_149), .val (.int (35 : Int32)), .val (.int (0 : Int32)), .val (.int (0 : Int32))] [(.ref b__168)])) rfl (by rw [hml]; rfl) (argsL := [(.ref b__168)]) (rest := []) (lenOf pd_15 rfl) rfl (by show 2 * 0 + _ ≤ _; exact Nat.le_of_eq rfl) (hb hby at_108) (fun _ _ => ⟨rfl, e_168, (by decide : 2 + 2 ≤ _), (by decide : 5 + 36 ≤ _)⟩)
            dsimp only [Pt.U, Pt.locs, Pt.cells, Pt.slots] at X_170 l_170 y_170 z_170 st_170 hQ_170
            obtain rfl : kc_170 = 4 := y_170
            obtain rfl : nc_170 = 41 := z_170
            dsimp only [Pt.U, Pt.locs, Pt.cells, Pt.slots] at sn_170 gg_170 CH_170
            obtain ⟨X_170, HE_170, hZ, hown⟩ := OwnH.call HE_168 e_168 X_170 sn_170 gg_170 hZ hown CH_170
            obtain ⟨h_170, e_170⟩ : ∃ hh, T_170.heap = hh := ⟨_, rfl⟩
            rw [e_170] at hQ_170 HE_170 CH_170
            obtain ⟨rfl, N_170q, K_170⟩ := hQ_170
            have N_170 : Fr n0 L_170 := by rw [l_170]; exact Fr.app N_168 N_170q
            refine GoS.st (fun _ kk => st_170.trans kk) ?_
            have KK_170 : Keep h0 h_170 [] := KK_168.trans K_170 all0
            have z_170q : n0 ≤ h_170.size := Nat.le_trans z_168q K_170.1
            have ns_170 : ∀ x ∈ ([] : List Addr), ∀ cell : Cell, h_168[x]? = some cell → cell.vm.isStatics = false := all0
            show GoS p e below s _ _ _ _ _ T_170 (mkF m 111 #[.val (.int na), .val (.int nb), .val (.int ch_1), .val (.int rr_149), .val (.int (35 : Int32)), .val (.int (0 : Int32)), .val (.int (0 : Int32))] [(.int (1 : Int32))])
            exact GoS.retZ hZ hEL HE_170 e_170 X_170 hx hlk Bd.returns (hb hby at_111) rfl (by rw [e_170]; exact ⟨rfl, N_170⟩) (by decide) (by decide)
set_option maxRecDepth 65536 in
set_option maxHeartbeats 40000000 in
theorem comes_1 {Post : Tables → Env → Array Value → State → Outcome → State → Prop} (hpost : ∀ tb e args s v u, (limb_1_1.after args s (.returned v) u = true ∧ limb_1_2.after args s (.returned v) u = true ∧ True) → ReturnedEndW s (.returned v) u (Jvm.fieldLocs frame_1_writes args s ++ Jvm.arrayLocs frame_1_arrays args s ++ Jvm.staticLocs frame_1_statics s) 16 1152 → Post tb e args s (.returned v) u) :
    ArmFor flags0 classFile x code maxLocals ret World_1 tables_1 room_1 Calls_1 rest_1 Pre_1 Post := by
  intro l hfl _ _ p e ha hc hk s m args below hf hA hF happ hP
  obtain ⟨hcalls, hrest, hpre⟩ := hP
  obtain ⟨-, -, -, hnamed, -, -, -, hat⟩ := (Spec.applies_iff hf).mp happ
  obtain ⟨hg, hn⟩ := and_e (Cond.before_iff.mp (show (Jvm.Cond.and given_1 narrow_1).before args s = true from hpre))
  obtain ⟨g1, g2⟩ := and_e hg
  obtain ⟨g3, g4⟩ := and_e g2
  obtain ⟨w0, w1, rfl⟩ : ∃ w0 w1 : Value, args = #[w0, w1] := by
    have hs : args.size = 2 := by simpa [Cond.value, given_1] using g1
    obtain ⟨L⟩ := args
    match L, hs with
    | [w0, w1], _ => exact ⟨w0, w1, rfl⟩
  have hw := fun d (hd : d ∈ tables_1) => atoms_spec (ws := Jvm.Cond.code x code maxLocals ret :: tables_1) hat d (List.mem_cons_of_mem _ hd)
  have hfit : Fit s := fun {y c} hc i hi => by
    obtain ⟨ha, rfl⟩ := Array.getElem?_eq_some_iff.mp hc
    have q := List.all_eq_true.mp ((Array.all_eq_true_iff_forall_mem.mp hF) _ (Array.getElem_mem ha)) i (List.mem_range.mpr hi)
    simpa [Array.getElem?_eq_getElem hi] using q
  obtain ⟨hsets, hown0⟩ := atoms_of _ (rest_1_c_eq ▸ (show rest_1_c.before _ s = true from hrest))
  have hr0 := Cond.before_iff.mp hown0
  obtain ⟨i0, ei0⟩ := is_v g3
  obtain rfl : w0 = (.int i0) := Option.some.inj ei0
  obtain ⟨i1, ei1⟩ := is_v g4
  obtain rfl : w1 = (.int i1) := Option.some.inj ei1
  obtain ⟨cs, ecs⟩ := is_v (Cond.before_iff.mp (hsets _ (List.mem_of_getElem? (i := 1) rfl)))
  have S_cs := Sta.start ecs (Or.inl (hsets _ (List.mem_of_getElem? (i := 0) rfl)))
  have hcs : ¬ cs = (0 : Int32) := gotF (Cond.eq_ints ecs (Term.int_eval (0 : Int32))) (not_v (Cond.before_iff.mp (hsets _ (List.mem_of_getElem? (i := 2) rfl))))
  obtain ⟨fm, efm, rf_fm⟩ := isR_v (Cond.before_iff.mp (hsets _ (List.mem_of_getElem? (i := 8) rfl)))
  have S_fm := Sta.start efm (Or.inl (hsets _ (List.mem_of_getElem? (i := 7) rfl)))
  have hCHv : CHv s consts_1 s.vm s.heap := CHv.start (ew1 hw) (fun p hp => hcalls.1 p hp) (hsets _ (List.mem_of_getElem? (i := 2) rfl)) (ws1 hw _ (List.mem_of_getElem? (i := 2) rfl)) (ws1 hw _ (List.mem_of_getElem? (i := 1) rfl))
  obtain ⟨n, o, h1, h2, h3, _, L, rfl, ⟨rfl, N⟩, -, hq⟩ := rm0 l s _ hw tables_1 i0 i1 cs fm s.heap s.heap.size (Nat.le_refl _) S_cs hcs S_fm rf_fm p e ha hc hk s m _ below hf ((Spec.applies_iff_loose hf).mp happ).1 ⟨rfl, State.Warmed39.refl s, rfl, hCHv⟩ trivial
  refine ⟨n, _, h1, h2, h3, hpost _ _ _ _ _ _ ⟨Cond.after_iff.mpr rfl, Cond.after_iff.mpr (eq_i res_at (Term.int_eval (1)) rfl), trivial⟩ ⟨hq.1, hq.2.1, hq.2.2.1, (hq.2.2.2.sift fun y hy => Or.inr (N y hy)).mono (by decide) (by decide)⟩⟩
theorem main_1_1 : Claimed_1_1 := comes_1 fun _ _ _ _ _ _ h hF => ⟨h.1, hF⟩
theorem main_1_2 : Claimed_1_2 := comes_1 fun _ _ _ _ _ _ h hF => ⟨h.2.1, hF⟩
end Jvm.Pilot.@@N@@
namespace Jvm.Pilot.@@N@@
open Jvm Jvm.ClassFile Sem Op Lib Jvm.Free Jvm.Stand Jvm.Pilot.@@N@@.Jvm.D
/-! MADE BY PROGRAM (witnessworld.py) out of the Statement's table words and the real class files: 19 classes; the members and pool entries that the words name. The judged class is class 1, her method 1. -/
namespace start1
open Jvm.ClassFile
def u (s : String) : CpInfo := .utf8 (stringToUtf16 s)
/-- a pool by its gaps: so many unusable entries, then the entry; so many at the end -/
def gap : Nat → List CpInfo → List CpInfo
  | 0, r => r
  | n + 1, r => .unusable :: gap n r
def poolList (es : List (Nat × CpInfo)) (last : Nat) : List CpInfo := es.foldr (fun e r => gap e.1 (e.2 :: r)) (gap last [])
def pool (es : List (Nat × CpInfo)) (last : Nat) : Array CpInfo := ⟨poolList es last⟩
def fileOf (pool : Array CpInfo) (this : Nat) (attrs : Array Attribute := #[]) (ms : Array MethodInfo := #[]) (fl : Nat := 33) (sup : Nat := 0) (ifs : Array Nat := #[]) (fds : Array FieldInfo := #[]) : ClassFile where
  minorVersion := 0
  majorVersion := 65
  constantPool := pool
  accessFlags := fl
  thisClass := this
  superClass := sup
  interfaces := ifs
  fields := fds
  methods := ms
  attributes := attrs
def plain (name : String) (sup : Option ClassId) : Class where
  name := name
  kind := .ordinary
  loader := none
  accessFlags := 33
  super := sup
  interfaces := #[]
  cf := none
  fields := #[]
  methods := #[]
  instanceTypes := #[]
  staticTypes := #[]
  resolved := #[]
  callSites := []
  init := .initialized
  statics := none
  mirror := none

def pool0 : Array CpInfo := pool [(5, u "<init>"), (0, u "()V"), (1, .class_ 10), (1, u "java/lang/Object")] 113

def k0c0 : Code := { maxStack := 0, maxLocals := 1, code := object_method_1_code, exceptionTable := #[], attributes := #[] }
def k0m0 : Method := { name := "<init>", desc := "()V", sig := { parameters := [], returnType := none }, accessFlags := 1, code := some k0c0 }
/-- java/lang/Object -/
def k0 : Class := { plain "java/lang/Object" none with
  accessFlags := 33
  interfaces := #[]
  cf := some (fileOf pool0 8 #[] #[{ accessFlags := 1, nameIndex := 5, descriptorIndex := 6, attributes := #[] }] 33 0 #[] #[])
  fields := #[]
  methods := #[k0m0]
  instanceTypes := #[]
  staticTypes := #[]
  resolved := Array.replicate 124 none
  statics := none }

def pool1 : Array CpInfo := pool [(2, .class_ 4), (1, u "java/lang/Object"), (0, u "<init>"), (0, u "()V"), (0, .integer 65535), (0, .integer 2147483647), (0, .methodref 10 11), (0, .class_ 12), (0, .nameAndType 13 14), (0, u "com/example/contextwire/contextwire/RequestId"), (0, u "isNodeEnd"), (0, u "(C)Z"), (0, .methodref 16 17), (0, .class_ 18), (0, .nameAndType 19 20), (0, u "java/lang/String"), (0, u "valueOf"), (0, u "(C)Ljava/lang/String;"), (0, .methodref 10 22), (0, .nameAndType 23 24), (0, u "isValid"), (0, u "(Ljava/lang/String;)Z"), (0, .class_ 26), (0, u "com/example/contextwire/contextwire/RequestIdIsNodeEndPinLaw"), (2, u "law"), (0, u "(II)Z")] 3

def k1m0 : Method := { name := "<init>", desc := "()V", sig := { parameters := [], returnType := none }, accessFlags := 1, code := none }
def k1c1 : Code := { maxStack := 2, maxLocals := 7, code := code, exceptionTable := #[], attributes := #[] }
def k1m1 : Method := { name := "law", desc := "(II)Z", sig := { parameters := [.int, .int], returnType := some .boolean }, accessFlags := 9, code := some k1c1 }
/-- com/example/contextwire/contextwire/RequestIdIsNodeEndPinLaw -/
def k1 : Class := { plain "com/example/contextwire/contextwire/RequestIdIsNodeEndPinLaw" (some 0) with
  accessFlags := 49
  interfaces := #[]
  cf := some (fileOf pool1 25 #[] #[{ accessFlags := 1, nameIndex := 5, descriptorIndex := 6, attributes := #[] }, { accessFlags := 9, nameIndex := 29, descriptorIndex := 30, attributes := #[] }] 49 2 #[] #[])
  fields := #[]
  methods := #[k1m0, k1m1]
  instanceTypes := #[]
  staticTypes := #[]
  resolved := Array.replicate 34 none
  statics := none }

def pool2 : Array CpInfo := pool [(2, .class_ 4), (1, u "java/lang/Object"), (0, u "<init>"), (0, u "()V"), (0, .class_ 8), (0, u "java/lang/Record")] 13

def k2m0 : Method := { name := "<init>", desc := "()V", sig := { parameters := [], returnType := none }, accessFlags := 4, code := none }
/-- java/lang/Record -/
def k2 : Class := { plain "java/lang/Record" (some 0) with
  accessFlags := 1057
  interfaces := #[]
  cf := some (fileOf pool2 7 #[] #[{ accessFlags := 4, nameIndex := 5, descriptorIndex := 6, attributes := #[] }] 1057 2 #[] #[])
  fields := #[]
  methods := #[k2m0]
  instanceTypes := #[]
  staticTypes := #[]
  resolved := Array.replicate 22 none
  statics := none }

def pool3 : Array CpInfo := pool [(2, .class_ 4), (1, u "java/lang/Record"), (3, u "value"), (7, .class_ 18), (1, u "com/example/contextwire/contextwire/RequestId"), (0, u "isValid"), (0, u "(Ljava/lang/String;)Z"), (11, u "Ljava/lang/String;"), (2, u "remote"), (0, u "Z"), (0, .methodref 38 39), (0, .class_ 40), (0, .nameAndType 41 42), (0, u "java/lang/String"), (0, u "isEmpty"), (0, u "()Z"), (0, .methodref 38 44), (0, .nameAndType 45 46), (0, u "length"), (0, u "()I"), (0, .methodref 38 48), (0, .nameAndType 49 50), (0, u "charAt"), (0, u "(I)C"), (0, .methodref 16 52), (0, .nameAndType 53 54), (0, u "isIdChar"), (0, u "(C)Z"), (0, .string 56), (0, u "+/=-|._#"), (0, .methodref 38 58), (0, .nameAndType 59 60), (0, u "indexOf"), (0, u "(I)I"), (12, u "MAX_BYTES"), (0, u "I"), (7, u "isNodeEnd")] 31

def k3c0 : Code := { maxStack := 2, maxLocals := 2, code := prog_20_method_2_code, exceptionTable := #[], attributes := #[] }
def k3m0 : Method := { name := "isValid", desc := "(Ljava/lang/String;)Z", sig := { parameters := [(.object "java/lang/String")], returnType := some .boolean }, accessFlags := 9, code := some k3c0 }
def k3c1 : Code := { maxStack := 2, maxLocals := 1, code := prog_20_method_3_code, exceptionTable := #[], attributes := #[] }
def k3m1 : Method := { name := "isNodeEnd", desc := "(C)Z", sig := { parameters := [.char], returnType := some .boolean }, accessFlags := 8, code := some k3c1 }
def k3c2 : Code := { maxStack := 2, maxLocals := 1, code := prog_20_method_4_code, exceptionTable := #[], attributes := #[] }
def k3m2 : Method := { name := "isIdChar", desc := "(C)Z", sig := { parameters := [.char], returnType := some .boolean }, accessFlags := 10, code := some k3c2 }
/-- com/example/contextwire/contextwire/RequestId -/
def k3 : Class := { plain "com/example/contextwire/contextwire/RequestId" (some 2) with
  accessFlags := 49
  interfaces := #[]
  cf := some (fileOf pool3 16 #[] #[{ accessFlags := 9, nameIndex := 19, descriptorIndex := 20, attributes := #[] }, { accessFlags := 8, nameIndex := 82, descriptorIndex := 54, attributes := #[] }, { accessFlags := 10, nameIndex := 53, descriptorIndex := 54, attributes := #[] }] 49 2 #[] #[{ accessFlags := 18, nameIndex := 8, descriptorIndex := 32, attributes := #[] }, { accessFlags := 18, nameIndex := 35, descriptorIndex := 36, attributes := #[] }, { accessFlags := 25, nameIndex := 73, descriptorIndex := 74, attributes := #[] }])
  fields := #[{ name := "value", type := (.object "java/lang/String"), accessFlags := 18, slot := 0, constantValue := 0 }, { name := "remote", type := .boolean, accessFlags := 18, slot := 1, constantValue := 0 }, { name := "MAX_BYTES", type := .int, accessFlags := 25, slot := 0, constantValue := 0 }]
  methods := #[k3m0, k3m1, k3m2]
  instanceTypes := #[(.object "java/lang/String"), .boolean]
  staticTypes := #[.int]
  resolved := Array.replicate 114 none
  statics := none }

def pool4 : Array CpInfo := pool [(1, .class_ 2), (0, u "java/io/Serializable"), (0, .class_ 4), (0, u "java/lang/Object")] 2

/-- java/io/Serializable -/
def k4 : Class := { plain "java/io/Serializable" (some 0) with
  accessFlags := 1537
  interfaces := #[]
  cf := some (fileOf pool4 1 #[] #[] 1537 3 #[] #[])
  fields := #[]
  methods := #[]
  instanceTypes := #[]
  staticTypes := #[]
  resolved := Array.replicate 7 none
  statics := none }

def pool5 : Array CpInfo := pool [(1, .class_ 2), (0, u "java/lang/Comparable"), (0, .class_ 4), (0, u "java/lang/Object")] 7

/-- java/lang/Comparable -/
def k5 : Class := { plain "java/lang/Comparable" (some 0) with
  accessFlags := 1537
  interfaces := #[]
  cf := some (fileOf pool5 1 #[] #[] 1537 3 #[] #[])
  fields := #[]
  methods := #[]
  instanceTypes := #[]
  staticTypes := #[]
  resolved := Array.replicate 12 none
  statics := none }

def pool6 : Array CpInfo := pool [(2, .class_ 4), (1, u "java/lang/CharSequence"), (42, .class_ 48), (0, u "java/lang/CharSequence$1CodePointIterator"), (10, .class_ 60), (0, u "java/lang/CharSequence$1CharIterator"), (5, .class_ 67), (0, u "java/lang/Object")] 63

/-- java/lang/CharSequence -/
def k6 : Class := { plain "java/lang/CharSequence" (some 0) with
  accessFlags := 1537
  interfaces := #[]
  cf := some (fileOf pool6 2 #[.nestMembers #[47, 59]] #[] 1537 66 #[] #[])
  fields := #[]
  methods := #[]
  instanceTypes := #[]
  staticTypes := #[]
  resolved := Array.replicate 131 none
  statics := none }

def pool7 : Array CpInfo := pool [(1, .class_ 2), (0, u "java/lang/constant/Constable"), (0, .class_ 4), (0, u "java/lang/Object")] 6

/-- java/lang/constant/Constable -/
def k7 : Class := { plain "java/lang/constant/Constable" (some 0) with
  accessFlags := 1537
  interfaces := #[]
  cf := some (fileOf pool7 1 #[] #[] 1537 3 #[] #[])
  fields := #[]
  methods := #[]
  instanceTypes := #[]
  staticTypes := #[]
  resolved := Array.replicate 11 none
  statics := none }

def pool8 : Array CpInfo := pool [(1, .class_ 2), (0, u "java/lang/constant/ConstantDesc"), (0, .class_ 4), (0, u "java/lang/Object")] 32

/-- java/lang/constant/ConstantDesc -/
def k8 : Class := { plain "java/lang/constant/ConstantDesc" (some 0) with
  accessFlags := 1537
  interfaces := #[]
  cf := some (fileOf pool8 1 #[] #[] 1537 3 #[] #[])
  fields := #[]
  methods := #[]
  instanceTypes := #[]
  staticTypes := #[]
  resolved := Array.replicate 37 none
  statics := none }

def pool9 : Array CpInfo := pool [(1, .methodref 2 3), (0, .class_ 4), (0, .nameAndType 5 6), (0, u "java/lang/Object"), (0, u "<init>"), (0, u "()V"), (2, .fieldref 10 11), (0, .class_ 12), (0, .nameAndType 13 14), (0, u "java/lang/String"), (0, u "value"), (0, u "[B"), (0, .fieldref 10 16), (0, .nameAndType 17 18), (0, u "coder"), (0, u "B"), (2, u "hash"), (0, u "I"), (2, u "hashIsZero"), (0, u "Z"), (11, .fieldref 10 39), (0, .nameAndType 40 26), (0, u "COMPACT_STRINGS"), (12, u "toBytes"), (53, .class_ 109), (1, u "java/lang/StringLatin1"), (32, u "()Z"), (66, .methodref 10 210), (0, .nameAndType 5 211), (0, u "([BB)V"), (122, u "()I"), (0, .methodref 10 336), (0, .nameAndType 17 337), (0, u "()B"), (25, u "([BI)C"), (5, u "(C)Z"), (21, u "(II)V"), (35, u "(I)C"), (64, .methodref 10 493), (0, .nameAndType 494 142), (0, u "isLatin1"), (0, .methodref 107 496), (0, .nameAndType 497 363), (0, u "charAt"), (3, u "checkIndex"), (3, .methodref 10 506), (0, .nameAndType 507 334), (0, u "length"), (67, .class_ 576), (0, u "java/lang/CharSequence"), (22, u "CASE_INSENSITIVE_ORDER"), (0, u "Ljava/util/Comparator;"), (32, .methodref 10 634), (0, .nameAndType 635 636), (0, u "indexOf"), (0, u "(II)I"), (0, .methodref 107 638), (0, .nameAndType 635 639), (0, u "([BIII)I"), (52, u "isEmpty"), (72, u "(I)I"), (16, u "valueOf"), (0, u "(C)Ljava/lang/String;"), (231, .methodref 107 1016), (0, .nameAndType 1017 369), (0, u "canEncode"), (0, .methodref 107 1019), (0, .nameAndType 53 1020), (0, u "(C)[B"), (32, .fieldref 1054 1055), (0, .class_ 1056), (0, .nameAndType 1057 1058), (0, u "jdk/internal/util/Preconditions"), (0, u "SIOOBE_FORMATTER"), (0, u "Ljava/util/function/BiFunction;"), (0, .methodref 1054 1060), (0, .nameAndType 501 1061), (0, u "(IILjava/util/function/BiFunction;)I"), (39, u "serialPersistentFields"), (0, u "[Ljava/io/ObjectStreamField;"), (0, .class_ 1104), (0, u "java/lang/String$CaseInsensitiveComparator"), (1, .class_ 1107), (0, u "java/io/Serializable"), (0, .class_ 1109), (0, u "java/lang/Comparable"), (0, .class_ 1111), (0, u "java/lang/constant/Constable"), (0, .class_ 1113), (0, u "java/lang/constant/ConstantDesc"), (2, u "serialVersionUID"), (0, u "J"), (3, u "REPL"), (0, u "C"), (2, u "LATIN1"), (1, u "UTF16")] 323

def k9m0 : Method := { name := "<init>", desc := "()V", sig := { parameters := [], returnType := none }, accessFlags := 1, code := none }
def k9c1 : Code := { maxStack := 2, maxLocals := 1, code := jdk_42_method_54_code, exceptionTable := #[], attributes := #[] }
def k9m1 : Method := { name := "length", desc := "()I", sig := { parameters := [], returnType := some .int }, accessFlags := 1, code := some k9c1 }
def k9c2 : Code := { maxStack := 1, maxLocals := 1, code := jdk_42_method_55_code, exceptionTable := #[], attributes := #[] }
def k9m2 : Method := { name := "isEmpty", desc := "()Z", sig := { parameters := [], returnType := some .boolean }, accessFlags := 1, code := some k9c2 }
def k9c3 : Code := { maxStack := 2, maxLocals := 2, code := jdk_42_method_56_code, exceptionTable := #[], attributes := #[] }
def k9m3 : Method := { name := "charAt", desc := "(I)C", sig := { parameters := [.int], returnType := some .char }, accessFlags := 1, code := some k9c3 }
def k9c4 : Code := { maxStack := 3, maxLocals := 2, code := jdk_42_method_79_code, exceptionTable := #[], attributes := #[] }
def k9m4 : Method := { name := "indexOf", desc := "(I)I", sig := { parameters := [.int], returnType := some .int }, accessFlags := 1, code := some k9c4 }
def k9c5 : Code := { maxStack := 4, maxLocals := 3, code := jdk_42_method_80_code, exceptionTable := #[], attributes := #[] }
def k9m5 : Method := { name := "indexOf", desc := "(II)I", sig := { parameters := [.int, .int], returnType := some .int }, accessFlags := 1, code := some k9c5 }
def k9c6 : Code := { maxStack := 4, maxLocals := 1, code := jdk_42_method_139_code, exceptionTable := #[], attributes := #[] }
def k9m6 : Method := { name := "valueOf", desc := "(C)Ljava/lang/String;", sig := { parameters := [.char], returnType := some (.object "java/lang/String") }, accessFlags := 9, code := some k9c6 }
def k9c7 : Code := { maxStack := 2, maxLocals := 3, code := jdk_42_method_151_code, exceptionTable := #[], attributes := #[] }
def k9m7 : Method := { name := "<init>", desc := "([BB)V", sig := { parameters := [(.array .byte), .byte], returnType := none }, accessFlags := 0, code := some k9c7 }
def k9c8 : Code := { maxStack := 1, maxLocals := 1, code := jdk_42_method_152_code, exceptionTable := #[], attributes := #[] }
def k9m8 : Method := { name := "coder", desc := "()B", sig := { parameters := [], returnType := some .byte }, accessFlags := 0, code := some k9c8 }
def k9c9 : Code := { maxStack := 1, maxLocals := 1, code := jdk_42_method_154_code, exceptionTable := #[], attributes := #[] }
def k9m9 : Method := { name := "isLatin1", desc := "()Z", sig := { parameters := [], returnType := some .boolean }, accessFlags := 0, code := some k9c9 }
def k9c10 : Code := { maxStack := 3, maxLocals := 2, code := jdk_42_method_155_code, exceptionTable := #[], attributes := #[] }
def k9m10 : Method := { name := "checkIndex", desc := "(II)V", sig := { parameters := [.int, .int], returnType := none }, accessFlags := 8, code := some k9c10 }
/-- java/lang/String -/
def k9 : Class := { plain "java/lang/String" (some 0) with
  accessFlags := 49
  interfaces := #[4, 5, 6, 7, 8]
  cf := some (fileOf pool9 10 #[.nestMembers #[1103]] #[{ accessFlags := 1, nameIndex := 5, descriptorIndex := 6, attributes := #[] }, { accessFlags := 1, nameIndex := 507, descriptorIndex := 334, attributes := #[] }, { accessFlags := 1, nameIndex := 692, descriptorIndex := 142, attributes := #[] }, { accessFlags := 1, nameIndex := 497, descriptorIndex := 427, attributes := #[] }, { accessFlags := 1, nameIndex := 635, descriptorIndex := 765, attributes := #[] }, { accessFlags := 1, nameIndex := 635, descriptorIndex := 636, attributes := #[] }, { accessFlags := 9, nameIndex := 782, descriptorIndex := 783, attributes := #[] }, { accessFlags := 0, nameIndex := 5, descriptorIndex := 211, attributes := #[] }, { accessFlags := 0, nameIndex := 17, descriptorIndex := 337, attributes := #[] }, { accessFlags := 0, nameIndex := 494, descriptorIndex := 142, attributes := #[] }, { accessFlags := 8, nameIndex := 501, descriptorIndex := 391, attributes := #[] }] 49 2 #[1106, 1108, 575, 1110, 1112] #[{ accessFlags := 18, nameIndex := 13, descriptorIndex := 14, attributes := #[] }, { accessFlags := 18, nameIndex := 17, descriptorIndex := 18, attributes := #[] }, { accessFlags := 2, nameIndex := 21, descriptorIndex := 22, attributes := #[] }, { accessFlags := 2, nameIndex := 25, descriptorIndex := 26, attributes := #[] }, { accessFlags := 26, nameIndex := 1116, descriptorIndex := 1117, attributes := #[] }, { accessFlags := 24, nameIndex := 40, descriptorIndex := 26, attributes := #[] }, { accessFlags := 26, nameIndex := 1101, descriptorIndex := 1102, attributes := #[] }, { accessFlags := 26, nameIndex := 1121, descriptorIndex := 1122, attributes := #[] }, { accessFlags := 25, nameIndex := 599, descriptorIndex := 600, attributes := #[] }, { accessFlags := 24, nameIndex := 1125, descriptorIndex := 18, attributes := #[] }, { accessFlags := 24, nameIndex := 1127, descriptorIndex := 18, attributes := #[] }])
  fields := #[{ name := "value", type := (.array .byte), accessFlags := 18, slot := 0, constantValue := 0 }, { name := "coder", type := .byte, accessFlags := 18, slot := 1, constantValue := 0 }, { name := "hash", type := .int, accessFlags := 2, slot := 2, constantValue := 0 }, { name := "hashIsZero", type := .boolean, accessFlags := 2, slot := 3, constantValue := 0 }, { name := "serialVersionUID", type := .long, accessFlags := 26, slot := 0, constantValue := 0 }, { name := "COMPACT_STRINGS", type := .boolean, accessFlags := 24, slot := 1, constantValue := 0 }, { name := "serialPersistentFields", type := (.array (.object "java/io/ObjectStreamField")), accessFlags := 26, slot := 2, constantValue := 0 }, { name := "REPL", type := .char, accessFlags := 26, slot := 3, constantValue := 0 }, { name := "CASE_INSENSITIVE_ORDER", type := (.object "java/util/Comparator"), accessFlags := 25, slot := 4, constantValue := 0 }, { name := "LATIN1", type := .byte, accessFlags := 24, slot := 5, constantValue := 0 }, { name := "UTF16", type := .byte, accessFlags := 24, slot := 6, constantValue := 0 }]
  methods := #[k9m0, k9m1, k9m2, k9m3, k9m4, k9m5, k9m6, k9m7, k9m8, k9m9, k9m10]
  instanceTypes := #[(.array .byte), .byte, .int, .boolean]
  staticTypes := #[.long, .boolean, (.array (.object "java/io/ObjectStreamField")), .char, (.object "java/util/Comparator"), .byte, .byte]
  resolved := Array.replicate 1451 none
  statics := some 0 }

def pool10 : Array CpInfo := pool [(1, .class_ 2), (0, u "java/lang/String"), (1, .class_ 6), (1, u "java/lang/Object"), (0, u "<init>"), (0, u "()V"), (0, .methodref 1 10), (0, .nameAndType 11 12), (0, u "checkIndex"), (0, u "(II)V"), (1, .class_ 16), (1, u "java/lang/StringLatin1"), (21, .methodref 39 40), (0, .class_ 41), (0, .nameAndType 42 43), (0, u "java/lang/Math"), (0, u "min"), (0, u "(II)I"), (9, u "([BI)C"), (34, .methodref 14 89), (0, .nameAndType 90 91), (0, u "canEncode"), (0, u "(I)Z"), (0, .methodref 39 93), (0, .nameAndType 94 43), (0, u "max"), (0, .methodref 14 96), (0, .nameAndType 97 98), (0, u "indexOfChar"), (0, u "([BIII)I"), (2, u "indexOf"), (3, u "(C)Z"), (15, u "$assertionsDisabled"), (0, u "Z"), (98, .class_ 223), (1, u "java/lang/StringLatin1$LinesSpliterator"), (28, u "charAt"), (127, u "toBytes"), (1, u "(C)[B"), (7, .class_ 391), (0, u "java/lang/StringLatin1$CharsSpliterator")] 3

def k10m0 : Method := { name := "<init>", desc := "()V", sig := { parameters := [], returnType := none }, accessFlags := 0, code := none }
def k10c1 : Code := { maxStack := 2, maxLocals := 2, code := jdk_43_method_2_code, exceptionTable := #[], attributes := #[] }
def k10m1 : Method := { name := "charAt", desc := "([BI)C", sig := { parameters := [(.array .byte), .int], returnType := some .char }, accessFlags := 9, code := some k10c1 }
def k10c2 : Code := { maxStack := 2, maxLocals := 1, code := jdk_43_method_3_code, exceptionTable := #[], attributes := #[] }
def k10m2 : Method := { name := "canEncode", desc := "(C)Z", sig := { parameters := [.char], returnType := some .boolean }, accessFlags := 9, code := some k10c2 }
def k10c3 : Code := { maxStack := 2, maxLocals := 1, code := jdk_43_method_4_code, exceptionTable := #[], attributes := #[] }
def k10m3 : Method := { name := "canEncode", desc := "(I)Z", sig := { parameters := [.int], returnType := some .boolean }, accessFlags := 9, code := some k10c3 }
def k10c4 : Code := { maxStack := 4, maxLocals := 4, code := jdk_43_method_22_code, exceptionTable := #[], attributes := #[] }
def k10m4 : Method := { name := "indexOf", desc := "([BIII)I", sig := { parameters := [(.array .byte), .int, .int, .int], returnType := some .int }, accessFlags := 9, code := some k10c4 }
def k10c5 : Code := { maxStack := 2, maxLocals := 6, code := jdk_43_method_23_code, exceptionTable := #[], attributes := #[] }
def k10m5 : Method := { name := "indexOfChar", desc := "([BIII)I", sig := { parameters := [(.array .byte), .int, .int, .int], returnType := some .int }, accessFlags := 10, code := some k10c5 }
def k10c6 : Code := { maxStack := 4, maxLocals := 1, code := jdk_43_method_46_code, exceptionTable := #[], attributes := #[] }
def k10m6 : Method := { name := "toBytes", desc := "(C)[B", sig := { parameters := [.char], returnType := some (.array .byte) }, accessFlags := 9, code := some k10c6 }
/-- java/lang/StringLatin1 -/
def k10 : Class := { plain "java/lang/StringLatin1" (some 0) with
  accessFlags := 48
  interfaces := #[]
  cf := some (fileOf pool10 14 #[.nestMembers #[390, 221]] #[{ accessFlags := 0, nameIndex := 7, descriptorIndex := 8, attributes := #[] }, { accessFlags := 9, nameIndex := 252, descriptorIndex := 53, attributes := #[] }, { accessFlags := 9, nameIndex := 90, descriptorIndex := 105, attributes := #[] }, { accessFlags := 9, nameIndex := 90, descriptorIndex := 91, attributes := #[] }, { accessFlags := 9, nameIndex := 101, descriptorIndex := 98, attributes := #[] }, { accessFlags := 10, nameIndex := 97, descriptorIndex := 98, attributes := #[] }, { accessFlags := 9, nameIndex := 380, descriptorIndex := 382, attributes := #[] }] 48 4 #[] #[{ accessFlags := 4120, nameIndex := 121, descriptorIndex := 122, attributes := #[] }])
  fields := #[{ name := "$assertionsDisabled", type := .boolean, accessFlags := 4120, slot := 0, constantValue := 0 }]
  methods := #[k10m0, k10m1, k10m2, k10m3, k10m4, k10m5, k10m6]
  instanceTypes := #[]
  staticTypes := #[.boolean]
  resolved := Array.replicate 395 none
  statics := none }

def pool11 : Array CpInfo := pool [(2, .class_ 4), (1, u "java/lang/Object"), (0, u "<init>"), (0, u "()V"), (17, .class_ 26), (1, u "jdk/internal/util/Preconditions"), (6, u "checkIndex"), (21, .class_ 56), (0, u "jdk/internal/util/Preconditions$4"), (57, .class_ 115), (0, u "jdk/internal/util/Preconditions$1"), (7, u "SIOOBE_FORMATTER"), (0, u "Ljava/util/function/BiFunction;"), (0, .class_ 126), (0, u "jdk/internal/util/Preconditions$2"), (3, u "AIOOBE_FORMATTER"), (0, .class_ 132), (0, u "jdk/internal/util/Preconditions$3"), (3, u "IOOBE_FORMATTER"), (41, u "(IILjava/util/function/BiFunction;)I")] 15

def k11m0 : Method := { name := "<init>", desc := "()V", sig := { parameters := [], returnType := none }, accessFlags := 1, code := none }
def k11c1 : Code := { maxStack := 3, maxLocals := 3, code := jdk_41_method_11_code, exceptionTable := #[], attributes := #[] }
def k11m1 : Method := { name := "checkIndex", desc := "(IILjava/util/function/BiFunction;)I", sig := { parameters := [.int, .int, (.object "java/util/function/BiFunction")], returnType := some .int }, accessFlags := 9, code := some k11c1 }
/-- jdk/internal/util/Preconditions -/
def k11 : Class := { plain "jdk/internal/util/Preconditions" (some 0) with
  accessFlags := 33
  interfaces := #[]
  cf := some (fileOf pool11 24 #[.nestMembers #[55, 131, 125, 114]] #[{ accessFlags := 1, nameIndex := 5, descriptorIndex := 6, attributes := #[] }, { accessFlags := 9, nameIndex := 33, descriptorIndex := 178, attributes := #[] }] 33 2 #[] #[{ accessFlags := 25, nameIndex := 123, descriptorIndex := 124, attributes := #[] }, { accessFlags := 25, nameIndex := 130, descriptorIndex := 124, attributes := #[] }, { accessFlags := 25, nameIndex := 136, descriptorIndex := 124, attributes := #[] }])
  fields := #[{ name := "SIOOBE_FORMATTER", type := (.object "java/util/function/BiFunction"), accessFlags := 25, slot := 0, constantValue := 0 }, { name := "AIOOBE_FORMATTER", type := (.object "java/util/function/BiFunction"), accessFlags := 25, slot := 1, constantValue := 0 }, { name := "IOOBE_FORMATTER", type := (.object "java/util/function/BiFunction"), accessFlags := 25, slot := 2, constantValue := 0 }]
  methods := #[k11m0, k11m1]
  instanceTypes := #[]
  staticTypes := #[(.object "java/util/function/BiFunction"), (.object "java/util/function/BiFunction"), (.object "java/util/function/BiFunction")]
  resolved := Array.replicate 194 none
  statics := some 1 }

def pool12 : Array CpInfo := pool [(1, .class_ 2), (0, u "java/lang/Math"), (1, .class_ 6), (1, u "java/lang/Object"), (0, u "<init>"), (0, u "()V"), (89, .class_ 100), (1, u "java/lang/Math$RandomNumberGeneratorHolder"), (71, u "negativeZeroFloatBits"), (0, u "J"), (2, u "negativeZeroDoubleBits"), (21, u "max"), (2, u "min"), (43, u "$assertionsDisabled"), (0, u "Z"), (88, u "(II)I"), (2, u "twoToTheDoubleScaleDown"), (0, u "D"), (4, u "twoToTheDoubleScaleUp"), (9, u "E"), (3, u "PI"), (2, u "TAU"), (2, u "DEGREES_TO_RADIANS"), (0, u "RADIANS_TO_DEGREES")] 94

def k12m0 : Method := { name := "<init>", desc := "()V", sig := { parameters := [], returnType := none }, accessFlags := 2, code := none }
def k12c1 : Code := { maxStack := 2, maxLocals := 2, code := jdk_29_method_65_code, exceptionTable := #[], attributes := #[] }
def k12m1 : Method := { name := "max", desc := "(II)I", sig := { parameters := [.int, .int], returnType := some .int }, accessFlags := 9, code := some k12c1 }
def k12c2 : Code := { maxStack := 2, maxLocals := 2, code := jdk_29_method_69_code, exceptionTable := #[], attributes := #[] }
def k12m2 : Method := { name := "min", desc := "(II)I", sig := { parameters := [.int, .int], returnType := some .int }, accessFlags := 9, code := some k12c2 }
/-- java/lang/Math -/
def k12 : Class := { plain "java/lang/Math" (some 0) with
  accessFlags := 49
  interfaces := #[]
  cf := some (fileOf pool12 1 #[.nestMembers #[98]] #[{ accessFlags := 2, nameIndex := 7, descriptorIndex := 8, attributes := #[] }, { accessFlags := 9, nameIndex := 198, descriptorIndex := 335, attributes := #[] }, { accessFlags := 9, nameIndex := 201, descriptorIndex := 335, attributes := #[] }] 49 4 #[] #[{ accessFlags := 25, nameIndex := 354, descriptorIndex := 339, attributes := #[] }, { accessFlags := 25, nameIndex := 358, descriptorIndex := 339, attributes := #[] }, { accessFlags := 25, nameIndex := 361, descriptorIndex := 339, attributes := #[] }, { accessFlags := 26, nameIndex := 364, descriptorIndex := 339, attributes := #[] }, { accessFlags := 26, nameIndex := 365, descriptorIndex := 339, attributes := #[] }, { accessFlags := 26, nameIndex := 172, descriptorIndex := 173, attributes := #[] }, { accessFlags := 26, nameIndex := 176, descriptorIndex := 173, attributes := #[] }, { accessFlags := 8, nameIndex := 344, descriptorIndex := 339, attributes := #[] }, { accessFlags := 8, nameIndex := 338, descriptorIndex := 339, attributes := #[] }, { accessFlags := 4120, nameIndex := 245, descriptorIndex := 246, attributes := #[] }])
  fields := #[{ name := "E", type := .double, accessFlags := 25, slot := 0, constantValue := 0 }, { name := "PI", type := .double, accessFlags := 25, slot := 1, constantValue := 0 }, { name := "TAU", type := .double, accessFlags := 25, slot := 2, constantValue := 0 }, { name := "DEGREES_TO_RADIANS", type := .double, accessFlags := 26, slot := 3, constantValue := 0 }, { name := "RADIANS_TO_DEGREES", type := .double, accessFlags := 26, slot := 4, constantValue := 0 }, { name := "negativeZeroFloatBits", type := .long, accessFlags := 26, slot := 5, constantValue := 0 }, { name := "negativeZeroDoubleBits", type := .long, accessFlags := 26, slot := 6, constantValue := 0 }, { name := "twoToTheDoubleScaleUp", type := .double, accessFlags := 8, slot := 7, constantValue := 0 }, { name := "twoToTheDoubleScaleDown", type := .double, accessFlags := 8, slot := 8, constantValue := 0 }, { name := "$assertionsDisabled", type := .boolean, accessFlags := 4120, slot := 9, constantValue := 0 }]
  methods := #[k12m0, k12m1, k12m2]
  instanceTypes := #[]
  staticTypes := #[.double, .double, .double, .double, .double, .long, .long, .double, .double, .boolean]
  resolved := Array.replicate 460 none
  statics := none }

def pool13 : Array CpInfo := pool [(9, u "<init>"), (6, .class_ 18), (1, u "java/lang/Object"), (0, u "()V"), (1, .class_ 23), (1, u "jdk/internal/util/ArraysSupport"), (0, u "LOG2_ARRAY_LONG_INDEX_SCALE"), (0, u "I"), (2, u "U"), (0, u "Ljdk/internal/misc/Unsafe;"), (8, u "BIG_ENDIAN"), (0, u "Z"), (8, u "LOG2_BYTE_BIT_SIZE"), (4, u "LOG2_ARRAY_INT_INDEX_SCALE"), (54, u "JLA"), (0, u "Ljdk/internal/access/JavaLangAccess;"), (11, u "LOG2_ARRAY_BOOLEAN_INDEX_SCALE"), (9, u "LOG2_ARRAY_BYTE_INDEX_SCALE"), (5, u "LOG2_ARRAY_CHAR_INDEX_SCALE"), (5, u "LOG2_ARRAY_SHORT_INDEX_SCALE"), (18, u "LOG2_ARRAY_FLOAT_INDEX_SCALE"), (24, u "LOG2_ARRAY_DOUBLE_INDEX_SCALE"), (89, u "T_BOOLEAN"), (2, u "T_CHAR"), (1, u "T_FLOAT"), (1, u "T_DOUBLE"), (1, u "T_BYTE"), (1, u "T_SHORT"), (1, u "T_INT"), (1, u "T_LONG"), (1, u "SOFT_MAX_ARRAY_LENGTH")] 83

def k13m0 : Method := { name := "<init>", desc := "()V", sig := { parameters := [], returnType := none }, accessFlags := 2, code := none }
/-- jdk/internal/util/ArraysSupport -/
def k13 : Class := { plain "jdk/internal/util/ArraysSupport" (some 0) with
  accessFlags := 33
  interfaces := #[]
  cf := some (fileOf pool13 21 #[] #[{ accessFlags := 2, nameIndex := 9, descriptorIndex := 19, attributes := #[] }] 33 16 #[] #[{ accessFlags := 24, nameIndex := 28, descriptorIndex := 29, attributes := #[] }, { accessFlags := 26, nameIndex := 38, descriptorIndex := 39, attributes := #[] }, { accessFlags := 25, nameIndex := 121, descriptorIndex := 25, attributes := #[] }, { accessFlags := 25, nameIndex := 131, descriptorIndex := 25, attributes := #[] }, { accessFlags := 25, nameIndex := 137, descriptorIndex := 25, attributes := #[] }, { accessFlags := 25, nameIndex := 143, descriptorIndex := 25, attributes := #[] }, { accessFlags := 25, nameIndex := 53, descriptorIndex := 25, attributes := #[] }, { accessFlags := 25, nameIndex := 24, descriptorIndex := 25, attributes := #[] }, { accessFlags := 25, nameIndex := 162, descriptorIndex := 25, attributes := #[] }, { accessFlags := 25, nameIndex := 187, descriptorIndex := 25, attributes := #[] }, { accessFlags := 26, nameIndex := 48, descriptorIndex := 25, attributes := #[] }, { accessFlags := 25, nameIndex := 277, descriptorIndex := 25, attributes := #[] }, { accessFlags := 25, nameIndex := 280, descriptorIndex := 25, attributes := #[] }, { accessFlags := 25, nameIndex := 282, descriptorIndex := 25, attributes := #[] }, { accessFlags := 25, nameIndex := 284, descriptorIndex := 25, attributes := #[] }, { accessFlags := 25, nameIndex := 286, descriptorIndex := 25, attributes := #[] }, { accessFlags := 25, nameIndex := 288, descriptorIndex := 25, attributes := #[] }, { accessFlags := 25, nameIndex := 290, descriptorIndex := 25, attributes := #[] }, { accessFlags := 25, nameIndex := 292, descriptorIndex := 25, attributes := #[] }, { accessFlags := 26, nameIndex := 108, descriptorIndex := 109, attributes := #[] }, { accessFlags := 25, nameIndex := 294, descriptorIndex := 25, attributes := #[] }])
  fields := #[{ name := "U", type := (.object "jdk/internal/misc/Unsafe"), accessFlags := 24, slot := 0, constantValue := 0 }, { name := "BIG_ENDIAN", type := .boolean, accessFlags := 26, slot := 1, constantValue := 0 }, { name := "LOG2_ARRAY_BOOLEAN_INDEX_SCALE", type := .int, accessFlags := 25, slot := 2, constantValue := 0 }, { name := "LOG2_ARRAY_BYTE_INDEX_SCALE", type := .int, accessFlags := 25, slot := 3, constantValue := 0 }, { name := "LOG2_ARRAY_CHAR_INDEX_SCALE", type := .int, accessFlags := 25, slot := 4, constantValue := 0 }, { name := "LOG2_ARRAY_SHORT_INDEX_SCALE", type := .int, accessFlags := 25, slot := 5, constantValue := 0 }, { name := "LOG2_ARRAY_INT_INDEX_SCALE", type := .int, accessFlags := 25, slot := 6, constantValue := 0 }, { name := "LOG2_ARRAY_LONG_INDEX_SCALE", type := .int, accessFlags := 25, slot := 7, constantValue := 0 }, { name := "LOG2_ARRAY_FLOAT_INDEX_SCALE", type := .int, accessFlags := 25, slot := 8, constantValue := 0 }, { name := "LOG2_ARRAY_DOUBLE_INDEX_SCALE", type := .int, accessFlags := 25, slot := 9, constantValue := 0 }, { name := "LOG2_BYTE_BIT_SIZE", type := .int, accessFlags := 26, slot := 10, constantValue := 0 }, { name := "T_BOOLEAN", type := .int, accessFlags := 25, slot := 11, constantValue := 0 }, { name := "T_CHAR", type := .int, accessFlags := 25, slot := 12, constantValue := 0 }, { name := "T_FLOAT", type := .int, accessFlags := 25, slot := 13, constantValue := 0 }, { name := "T_DOUBLE", type := .int, accessFlags := 25, slot := 14, constantValue := 0 }, { name := "T_BYTE", type := .int, accessFlags := 25, slot := 15, constantValue := 0 }, { name := "T_SHORT", type := .int, accessFlags := 25, slot := 16, constantValue := 0 }, { name := "T_INT", type := .int, accessFlags := 25, slot := 17, constantValue := 0 }, { name := "T_LONG", type := .int, accessFlags := 25, slot := 18, constantValue := 0 }, { name := "JLA", type := (.object "jdk/internal/access/JavaLangAccess"), accessFlags := 26, slot := 19, constantValue := 0 }, { name := "SOFT_MAX_ARRAY_LENGTH", type := .int, accessFlags := 25, slot := 20, constantValue := 0 }]
  methods := #[k13m0]
  instanceTypes := #[]
  staticTypes := #[(.object "jdk/internal/misc/Unsafe"), .boolean, .int, .int, .int, .int, .int, .int, .int, .int, .int, .int, .int, .int, .int, .int, .int, .int, .int, (.object "jdk/internal/access/JavaLangAccess"), .int]
  resolved := Array.replicate 378 none
  statics := none }

def pool14 : Array CpInfo := pool [(1, u "java/lang/Cloneable"), (0, .class_ 1), (0, u "java/lang/Object"), (0, .class_ 3)] 3

/-- java/lang/Cloneable -/
def k14 : Class := { plain "java/lang/Cloneable" (some 0) with
  accessFlags := 1537
  interfaces := #[]
  cf := some (fileOf pool14 2 #[] #[] 1537 4 #[] #[])
  fields := #[]
  methods := #[]
  instanceTypes := #[]
  staticTypes := #[]
  resolved := Array.replicate 8 none
  statics := none }

/-- the primitive byte -/
def k15 : Class := { plain "byte" none with kind := .primitive 'B', accessFlags := 0x411 }
/-- [B -/
def k16 : Class := { plain "[B" (some 0) with kind := .array 15 .byte, interfaces := #[14, 4], accessFlags := 1041 }

/-- the primitive int -/
def k17 : Class := { plain "int" none with kind := .primitive 'I', accessFlags := 0x411 }
/-- [I -/
def k18 : Class := { plain "[I" (some 0) with kind := .array 17 .int, interfaces := #[14, 4], accessFlags := 1041 }

def heap : Heap := #[{ cls := 9, slots := #[.long 0, .int 1, .null, .int 0, .null, .int 0, .int 0], vm := .statics 9 },
  { cls := 11, slots := #[.null, .null, .null], vm := .statics 11 }]
def classes : Array Class := #[k0, k1, k2, k3, k4, k5, k6, k7, k8, k9, k10, k11, k12, k13, k14, k15, k16, k17, k18]
def interned : List (Array UInt16 × Addr) := []
def slotsUsed : Nat := 10
def theMethod : MethodId := ⟨1, 1⟩
def args0 : Array Value := #[.int 5, .int 6]
def aboutOver (below : List Frame) : State where
  vm := { classes := classes, interned := interned.toArray }
  heap := heap
  slotsUsed := slotsUsed
  threads := #[{ frames := .invoking theMethod args0 :: below }]
def below0 : List Frame := [.native { method := ⟨0, 0⟩, args := #[] }]
def about1 : State := aboutOver below0
def p0 : Program := .bare "" "" ""
def e0 : Env := launch0.env 0 0 0
theorem w_frames : about1.frames = Frame.invoking theMethod args0 :: below0 := rfl
set_option maxRecDepth 65536 in
theorem w_args : argsFit about1.vm theMethod args0 = true := by decide +kernel
set_option maxRecDepth 65536 in
theorem w_heap : heapFits about1 = true := by decide +kernel
set_option maxRecDepth 65536 in
theorem w_runnable : about1.curStatus? = some .runnable := by decide +kernel
set_option maxRecDepth 65536 in
theorem w_alone : about1.alone = true := by decide +kernel
set_option maxRecDepth 65536 in
theorem w_named : about1.methodNamed? x = some theMethod := by decide +kernel
set_option maxRecDepth 65536 in
theorem w_hears : about1.hears theMethod below0 = true := by decide +kernel
set_option maxRecDepth 65536 in
theorem w_ripe : about1.ripe theMethod args0 below0 = true := by decide +kernel
theorem w_running : about1.status = .running := rfl
set_option maxRecDepth 65536 in
theorem w_room : about1.hasRoom e0.platform room_1 = true :=
  launch0.hasRoom_least _ room_1 (by decide +kernel) (by decide +kernel) (by decide +kernel) (by decide +kernel) (by decide +kernel) (by decide +kernel)
theorem allAtoms_all (ts : List Jvm.Cond) (a : Array Jvm.Value) (st : Jvm.State) : (allAtoms ts).before a st = ts.all (fun c => c.before a st) := by
  induction ts with
  | nil => rfl
  | cons c t ih =>
    show (Jvm.Cond.and c (allAtoms t)).before a st = _
    rw [Jvm.Cond.before_and, ih, List.all_cons]
def words1 : List Jvm.Cond := Jvm.Cond.code x code maxLocals ret :: tables_1
/-- a 'code' word, met by the world's own term for the bytes: nothing is compared byte by byte -/
theorem code_word {y : MethodName} {bytes : ByteArray} {mx : Nat} {rt : Option FieldType} {a : Array Value} {s : State} {m : MethodId} {meth : Method} {c : Code} (h1 : s.methodNamed? y = some m) (h2 : s.vm.method? m = some meth) (h3 : meth.code = some c) (h4 : c.code = bytes)
    (h5 : (c.maxLocals == mx && c.exceptionTable.isEmpty && decide (c.maxStack ≤ mostOperands) && decide (meth.sig.returnType = rt) && !meth.locks && decide (parseMethodDescriptor y.desc = some meth.sig)) = true) : (Jvm.Cond.code y bytes mx rt).before a s = true := by
  simp only [Bool.and_eq_true, beq_iff_eq, Bool.not_eq_true', decide_eq_true_eq] at h5
  obtain ⟨⟨⟨⟨⟨g1, g2⟩, g3⟩, g4⟩, g5⟩, g6⟩ := h5
  simp [Cond.before, Cond.holds, Cond.value, h1, h2, h3, h4, g1, g2, g3, g4, g5, g6]
def isCode : Jvm.Cond → Bool
  | .code _ _ _ _ => true
  | _ => false
theorem all_split {L : List Jvm.Cond} {P : Jvm.Cond → Bool} (h1 : L.all (fun c => isCode c || P c) = true) (h2 : ∀ c ∈ L.filter isCode, P c = true) : L.all P = true := by
  refine List.all_eq_true.mpr fun c hc => ?_
  have h := List.all_eq_true.mp h1 c hc
  rcases Bool.eq_false_or_eq_true (isCode c) with hi | hi
  · exact h2 c (List.mem_filter.mpr ⟨hc, hi⟩)
  · simpa [hi] using h
set_option maxRecDepth 65536 in
theorem w_c0 : (Jvm.Cond.code x code maxLocals ret).before args0 about1 = true := code_word (m := ⟨1, 1⟩) (meth := k1m1) (c := k1c1) (by decide +kernel) rfl rfl rfl (by decide +kernel)
set_option maxRecDepth 65536 in
theorem w_c1 : (Jvm.Cond.code ({ cls := "com/example/contextwire/contextwire/RequestId", name := "isNodeEnd", desc := "(C)Z" } : Jvm.MethodName) prog_20_method_3_code (1 : Nat) (Option.some Jvm.ClassFile.FieldType.boolean)).before args0 about1 = true := code_word (m := ⟨3, 1⟩) (meth := k3m1) (c := k3c1) (by decide +kernel) rfl rfl rfl (by decide +kernel)
set_option maxRecDepth 65536 in
theorem w_c2 : (Jvm.Cond.code ({ cls := "java/lang/String", name := "valueOf", desc := "(C)Ljava/lang/String;" } : Jvm.MethodName) jdk_42_method_139_code (1 : Nat) (Option.some (Jvm.ClassFile.FieldType.object "java/lang/String"))).before args0 about1 = true := code_word (m := ⟨9, 6⟩) (meth := k9m6) (c := k9c6) (by decide +kernel) rfl rfl rfl (by decide +kernel)
set_option maxRecDepth 65536 in
theorem w_c3 : (Jvm.Cond.code ({ cls := "java/lang/StringLatin1", name := "canEncode", desc := "(C)Z" } : Jvm.MethodName) jdk_43_method_3_code (1 : Nat) (Option.some Jvm.ClassFile.FieldType.boolean)).before args0 about1 = true := code_word (m := ⟨10, 2⟩) (meth := k10m2) (c := k10c2) (by decide +kernel) rfl rfl rfl (by decide +kernel)
set_option maxRecDepth 65536 in
theorem w_c4 : (Jvm.Cond.code ({ cls := "java/lang/StringLatin1", name := "toBytes", desc := "(C)[B" } : Jvm.MethodName) jdk_43_method_46_code (1 : Nat) (Option.some (Jvm.ClassFile.FieldType.array Jvm.ClassFile.FieldType.byte))).before args0 about1 = true := code_word (m := ⟨10, 6⟩) (meth := k10m6) (c := k10c6) (by decide +kernel) rfl rfl rfl (by decide +kernel)
set_option maxRecDepth 65536 in
theorem w_c5 : (Jvm.Cond.code ({ cls := "java/lang/String", name := "<init>", desc := "([BB)V" } : Jvm.MethodName) jdk_42_method_151_code (3 : Nat) (Option.none : Option Jvm.ClassFile.FieldType)).before args0 about1 = true := code_word (m := ⟨9, 7⟩) (meth := k9m7) (c := k9c7) (by decide +kernel) rfl rfl rfl (by decide +kernel)
set_option maxRecDepth 65536 in
theorem w_c6 : (Jvm.Cond.code ({ cls := "java/lang/Object", name := "<init>", desc := "()V" } : Jvm.MethodName) object_method_1_code (1 : Nat) (Option.none : Option Jvm.ClassFile.FieldType)).before args0 about1 = true := code_word (m := ⟨0, 0⟩) (meth := k0m0) (c := k0c0) (by decide +kernel) rfl rfl rfl (by decide +kernel)
set_option maxRecDepth 65536 in
theorem w_c7 : (Jvm.Cond.code ({ cls := "com/example/contextwire/contextwire/RequestId", name := "isValid", desc := "(Ljava/lang/String;)Z" } : Jvm.MethodName) prog_20_method_2_code (2 : Nat) (Option.some Jvm.ClassFile.FieldType.boolean)).before args0 about1 = true := code_word (m := ⟨3, 0⟩) (meth := k3m0) (c := k3c0) (by decide +kernel) rfl rfl rfl (by decide +kernel)
set_option maxRecDepth 65536 in
theorem w_c8 : (Jvm.Cond.code ({ cls := "java/lang/String", name := "isEmpty", desc := "()Z" } : Jvm.MethodName) jdk_42_method_55_code (1 : Nat) (Option.some Jvm.ClassFile.FieldType.boolean)).before args0 about1 = true := code_word (m := ⟨9, 2⟩) (meth := k9m2) (c := k9c2) (by decide +kernel) rfl rfl rfl (by decide +kernel)
set_option maxRecDepth 65536 in
theorem w_c9 : (Jvm.Cond.code ({ cls := "java/lang/String", name := "length", desc := "()I" } : Jvm.MethodName) jdk_42_method_54_code (1 : Nat) (Option.some Jvm.ClassFile.FieldType.int)).before args0 about1 = true := code_word (m := ⟨9, 1⟩) (meth := k9m1) (c := k9c1) (by decide +kernel) rfl rfl rfl (by decide +kernel)
set_option maxRecDepth 65536 in
theorem w_c10 : (Jvm.Cond.code ({ cls := "java/lang/String", name := "coder", desc := "()B" } : Jvm.MethodName) jdk_42_method_152_code (1 : Nat) (Option.some Jvm.ClassFile.FieldType.byte)).before args0 about1 = true := code_word (m := ⟨9, 8⟩) (meth := k9m8) (c := k9c8) (by decide +kernel) rfl rfl rfl (by decide +kernel)
set_option maxRecDepth 65536 in
theorem w_c11 : (Jvm.Cond.code ({ cls := "java/lang/String", name := "charAt", desc := "(I)C" } : Jvm.MethodName) jdk_42_method_56_code (2 : Nat) (Option.some Jvm.ClassFile.FieldType.char)).before args0 about1 = true := code_word (m := ⟨9, 3⟩) (meth := k9m3) (c := k9c3) (by decide +kernel) rfl rfl rfl (by decide +kernel)
set_option maxRecDepth 65536 in
theorem w_c12 : (Jvm.Cond.code ({ cls := "java/lang/String", name := "isLatin1", desc := "()Z" } : Jvm.MethodName) jdk_42_method_154_code (1 : Nat) (Option.some Jvm.ClassFile.FieldType.boolean)).before args0 about1 = true := code_word (m := ⟨9, 9⟩) (meth := k9m9) (c := k9c9) (by decide +kernel) rfl rfl rfl (by decide +kernel)
set_option maxRecDepth 65536 in
theorem w_c13 : (Jvm.Cond.code ({ cls := "java/lang/StringLatin1", name := "charAt", desc := "([BI)C" } : Jvm.MethodName) jdk_43_method_2_code (2 : Nat) (Option.some Jvm.ClassFile.FieldType.char)).before args0 about1 = true := code_word (m := ⟨10, 1⟩) (meth := k10m1) (c := k10c1) (by decide +kernel) rfl rfl rfl (by decide +kernel)
set_option maxRecDepth 65536 in
theorem w_c14 : (Jvm.Cond.code ({ cls := "java/lang/String", name := "checkIndex", desc := "(II)V" } : Jvm.MethodName) jdk_42_method_155_code (2 : Nat) (Option.none : Option Jvm.ClassFile.FieldType)).before args0 about1 = true := code_word (m := ⟨9, 10⟩) (meth := k9m10) (c := k9c10) (by decide +kernel) rfl rfl rfl (by decide +kernel)
set_option maxRecDepth 65536 in
theorem w_c15 : (Jvm.Cond.code ({ cls := "jdk/internal/util/Preconditions", name := "checkIndex", desc := "(IILjava/util/function/BiFunction;)I" } : Jvm.MethodName) jdk_41_method_11_code (3 : Nat) (Option.some Jvm.ClassFile.FieldType.int)).before args0 about1 = true := code_word (m := ⟨11, 1⟩) (meth := k11m1) (c := k11c1) (by decide +kernel) rfl rfl rfl (by decide +kernel)
set_option maxRecDepth 65536 in
theorem w_c16 : (Jvm.Cond.code ({ cls := "com/example/contextwire/contextwire/RequestId", name := "isIdChar", desc := "(C)Z" } : Jvm.MethodName) prog_20_method_4_code (1 : Nat) (Option.some Jvm.ClassFile.FieldType.boolean)).before args0 about1 = true := code_word (m := ⟨3, 2⟩) (meth := k3m2) (c := k3c2) (by decide +kernel) rfl rfl rfl (by decide +kernel)
set_option maxRecDepth 65536 in
theorem w_c17 : (Jvm.Cond.code ({ cls := "java/lang/String", name := "indexOf", desc := "(I)I" } : Jvm.MethodName) jdk_42_method_79_code (2 : Nat) (Option.some Jvm.ClassFile.FieldType.int)).before args0 about1 = true := code_word (m := ⟨9, 4⟩) (meth := k9m4) (c := k9c4) (by decide +kernel) rfl rfl rfl (by decide +kernel)
set_option maxRecDepth 65536 in
theorem w_c18 : (Jvm.Cond.code ({ cls := "java/lang/String", name := "indexOf", desc := "(II)I" } : Jvm.MethodName) jdk_42_method_80_code (3 : Nat) (Option.some Jvm.ClassFile.FieldType.int)).before args0 about1 = true := code_word (m := ⟨9, 5⟩) (meth := k9m5) (c := k9c5) (by decide +kernel) rfl rfl rfl (by decide +kernel)
set_option maxRecDepth 65536 in
theorem w_c19 : (Jvm.Cond.code ({ cls := "java/lang/StringLatin1", name := "indexOf", desc := "([BIII)I" } : Jvm.MethodName) jdk_43_method_22_code (4 : Nat) (Option.some Jvm.ClassFile.FieldType.int)).before args0 about1 = true := code_word (m := ⟨10, 4⟩) (meth := k10m4) (c := k10c4) (by decide +kernel) rfl rfl rfl (by decide +kernel)
set_option maxRecDepth 65536 in
theorem w_c20 : (Jvm.Cond.code ({ cls := "java/lang/StringLatin1", name := "canEncode", desc := "(I)Z" } : Jvm.MethodName) jdk_43_method_4_code (1 : Nat) (Option.some Jvm.ClassFile.FieldType.boolean)).before args0 about1 = true := code_word (m := ⟨10, 3⟩) (meth := k10m3) (c := k10c3) (by decide +kernel) rfl rfl rfl (by decide +kernel)
set_option maxRecDepth 65536 in
theorem w_c21 : (Jvm.Cond.code ({ cls := "java/lang/Math", name := "max", desc := "(II)I" } : Jvm.MethodName) jdk_29_method_65_code (2 : Nat) (Option.some Jvm.ClassFile.FieldType.int)).before args0 about1 = true := code_word (m := ⟨12, 1⟩) (meth := k12m1) (c := k12c1) (by decide +kernel) rfl rfl rfl (by decide +kernel)
set_option maxRecDepth 65536 in
theorem w_c22 : (Jvm.Cond.code ({ cls := "java/lang/Math", name := "min", desc := "(II)I" } : Jvm.MethodName) jdk_29_method_69_code (2 : Nat) (Option.some Jvm.ClassFile.FieldType.int)).before args0 about1 = true := code_word (m := ⟨12, 2⟩) (meth := k12m2) (c := k12c2) (by decide +kernel) rfl rfl rfl (by decide +kernel)
set_option maxRecDepth 65536 in
theorem w_c23 : (Jvm.Cond.code ({ cls := "java/lang/StringLatin1", name := "indexOfChar", desc := "([BIII)I" } : Jvm.MethodName) jdk_43_method_23_code (6 : Nat) (Option.some Jvm.ClassFile.FieldType.int)).before args0 about1 = true := code_word (m := ⟨10, 5⟩) (meth := k10m5) (c := k10c5) (by decide +kernel) rfl rfl rfl (by decide +kernel)
def codes1 : List Jvm.Cond := [Jvm.Cond.code x code maxLocals ret, Jvm.Cond.code ({ cls := "com/example/contextwire/contextwire/RequestId", name := "isNodeEnd", desc := "(C)Z" } : Jvm.MethodName) prog_20_method_3_code (1 : Nat) (Option.some Jvm.ClassFile.FieldType.boolean), Jvm.Cond.code ({ cls := "java/lang/String", name := "valueOf", desc := "(C)Ljava/lang/String;" } : Jvm.MethodName) jdk_42_method_139_code (1 : Nat) (Option.some (Jvm.ClassFile.FieldType.object "java/lang/String")), Jvm.Cond.code ({ cls := "java/lang/StringLatin1", name := "canEncode", desc := "(C)Z" } : Jvm.MethodName) jdk_43_method_3_code (1 : Nat) (Option.some Jvm.ClassFile.FieldType.boolean), Jvm.Cond.code ({ cls := "java/lang/StringLatin1", name := "toBytes", desc := "(C)[B" } : Jvm.MethodName) jdk_43_method_46_code (1 : Nat) (Option.some (Jvm.ClassFile.FieldType.array Jvm.ClassFile.FieldType.byte)), Jvm.Cond.code ({ cls := "java/lang/String", name := "<init>", desc := "([BB)V" } : Jvm.MethodName) jdk_42_method_151_code (3 : Nat) (Option.none : Option Jvm.ClassFile.FieldType), Jvm.Cond.code ({ cls := "java/lang/Object", name := "<init>", desc := "()V" } : Jvm.MethodName) object_method_1_code (1 : Nat) (Option.none : Option Jvm.ClassFile.FieldType), Jvm.Cond.code ({ cls := "com/example/contextwire/contextwire/RequestId", name := "isValid", desc := "(Ljava/lang/String;)Z" } : Jvm.MethodName) prog_20_method_2_code (2 : Nat) (Option.some Jvm.ClassFile.FieldType.boolean), Jvm.Cond.code ({ cls := "java/lang/String", name := "isEmpty", desc := "()Z" } : Jvm.MethodName) jdk_42_method_55_code (1 : Nat) (Option.some Jvm.ClassFile.FieldType.boolean), Jvm.Cond.code ({ cls := "java/lang/String", name := "length", desc := "()I" } : Jvm.MethodName) jdk_42_method_54_code (1 : Nat) (Option.some Jvm.ClassFile.FieldType.int), Jvm.Cond.code ({ cls := "java/lang/String", name := "coder", desc := "()B" } : Jvm.MethodName) jdk_42_method_152_code (1 : Nat) (Option.some Jvm.ClassFile.FieldType.byte), Jvm.Cond.code ({ cls := "java/lang/String", name := "charAt", desc := "(I)C" } : Jvm.MethodName) jdk_42_method_56_code (2 : Nat) (Option.some Jvm.ClassFile.FieldType.char), Jvm.Cond.code ({ cls := "java/lang/String", name := "isLatin1", desc := "()Z" } : Jvm.MethodName) jdk_42_method_154_code (1 : Nat) (Option.some Jvm.ClassFile.FieldType.boolean), Jvm.Cond.code ({ cls := "java/lang/StringLatin1", name := "charAt", desc := "([BI)C" } : Jvm.MethodName) jdk_43_method_2_code (2 : Nat) (Option.some Jvm.ClassFile.FieldType.char), Jvm.Cond.code ({ cls := "java/lang/String", name := "checkIndex", desc := "(II)V" } : Jvm.MethodName) jdk_42_method_155_code (2 : Nat) (Option.none : Option Jvm.ClassFile.FieldType), Jvm.Cond.code ({ cls := "jdk/internal/util/Preconditions", name := "checkIndex", desc := "(IILjava/util/function/BiFunction;)I" } : Jvm.MethodName) jdk_41_method_11_code (3 : Nat) (Option.some Jvm.ClassFile.FieldType.int), Jvm.Cond.code ({ cls := "com/example/contextwire/contextwire/RequestId", name := "isIdChar", desc := "(C)Z" } : Jvm.MethodName) prog_20_method_4_code (1 : Nat) (Option.some Jvm.ClassFile.FieldType.boolean), Jvm.Cond.code ({ cls := "java/lang/String", name := "indexOf", desc := "(I)I" } : Jvm.MethodName) jdk_42_method_79_code (2 : Nat) (Option.some Jvm.ClassFile.FieldType.int), Jvm.Cond.code ({ cls := "java/lang/String", name := "indexOf", desc := "(II)I" } : Jvm.MethodName) jdk_42_method_80_code (3 : Nat) (Option.some Jvm.ClassFile.FieldType.int), Jvm.Cond.code ({ cls := "java/lang/StringLatin1", name := "indexOf", desc := "([BIII)I" } : Jvm.MethodName) jdk_43_method_22_code (4 : Nat) (Option.some Jvm.ClassFile.FieldType.int), Jvm.Cond.code ({ cls := "java/lang/StringLatin1", name := "canEncode", desc := "(I)Z" } : Jvm.MethodName) jdk_43_method_4_code (1 : Nat) (Option.some Jvm.ClassFile.FieldType.boolean), Jvm.Cond.code ({ cls := "java/lang/Math", name := "max", desc := "(II)I" } : Jvm.MethodName) jdk_29_method_65_code (2 : Nat) (Option.some Jvm.ClassFile.FieldType.int), Jvm.Cond.code ({ cls := "java/lang/Math", name := "min", desc := "(II)I" } : Jvm.MethodName) jdk_29_method_69_code (2 : Nat) (Option.some Jvm.ClassFile.FieldType.int), Jvm.Cond.code ({ cls := "java/lang/StringLatin1", name := "indexOfChar", desc := "([BIII)I" } : Jvm.MethodName) jdk_43_method_23_code (6 : Nat) (Option.some Jvm.ClassFile.FieldType.int)]
set_option maxRecDepth 65536 in
theorem codes_eq : words1.filter isCode = codes1 := rfl
theorem w_codes : ∀ c ∈ words1.filter isCode, c.before args0 about1 = true := by
  rw [codes_eq]
  intro c hc
  simp only [codes1, List.mem_cons, List.not_mem_nil, or_false] at hc
  rcases hc with rfl | rfl | rfl | rfl | rfl | rfl | rfl | rfl | rfl | rfl | rfl | rfl | rfl | rfl | rfl | rfl | rfl | rfl | rfl | rfl | rfl | rfl | rfl | rfl
  · exact w_c0
  · exact w_c1
  · exact w_c2
  · exact w_c3
  · exact w_c4
  · exact w_c5
  · exact w_c6
  · exact w_c7
  · exact w_c8
  · exact w_c9
  · exact w_c10
  · exact w_c11
  · exact w_c12
  · exact w_c13
  · exact w_c14
  · exact w_c15
  · exact w_c16
  · exact w_c17
  · exact w_c18
  · exact w_c19
  · exact w_c20
  · exact w_c21
  · exact w_c22
  · exact w_c23
set_option maxRecDepth 65536 in
theorem w_t1 : (words1.take 24).all (fun c => isCode c || c.before args0 about1) = true := by decide +kernel
set_option maxRecDepth 65536 in
theorem w_t2 : ((words1.drop 24).take 24).all (fun c => isCode c || c.before args0 about1) = true := by decide +kernel
set_option maxRecDepth 65536 in
theorem w_t3 : (((words1.drop 24).drop 24).take 24).all (fun c => isCode c || c.before args0 about1) = true := by decide +kernel
set_option maxRecDepth 65536 in
theorem w_t4 : ((((words1.drop 24).drop 24).drop 24).take 24).all (fun c => isCode c || c.before args0 about1) = true := by decide +kernel
set_option maxRecDepth 65536 in
theorem w_t5 : ((((words1.drop 24).drop 24).drop 24).drop 24).all (fun c => isCode c || c.before args0 about1) = true := by decide +kernel
theorem w_tables : (allAtoms (Jvm.Cond.code x code maxLocals ret :: tables_1)).before args0 about1 = true := by
  rw [allAtoms_all]
  show words1.all (fun c => c.before args0 about1) = true
  refine all_split ?_ w_codes
  rw [← List.take_append_drop 24 words1, List.all_append, w_t1, ← List.take_append_drop 24 (words1.drop 24), List.all_append, w_t2, ← List.take_append_drop 24 ((words1.drop 24).drop 24), List.all_append, w_t3, ← List.take_append_drop 24 (((words1.drop 24).drop 24).drop 24), List.all_append, w_t4, w_t5]
  rfl
set_option maxRecDepth 65536 in
theorem w_rest : rest_1_c.before args0 about1 = true := by decide +kernel
set_option maxRecDepth 65536 in
theorem w_case : (Jvm.Cond.and given_1 narrow_1).before args0 about1 = true := by decide +kernel
set_option maxRecDepth 65536 in
theorem w_consts : constsHeld consts_1 about1 := Jvm.Lit.constsHeldB_iff.mp (by decide +kernel)
theorem w_applies : (headSpec (Jvm.Cond.code x code maxLocals ret :: tables_1) room_1).applies x e0.platform about1 = true :=
  (Spec.applies_iff w_frames).mpr ⟨w_running, w_runnable, w_alone, w_named, w_hears, w_ripe, w_room, w_tables⟩
theorem atStart : AtStart classFile x code maxLocals ret World_1 tables_1 room_1 Calls_1 rest_1 Pre_1 launch0 p0 e0 about1 theMethod args0 below0 :=
  ⟨lists_1, trivial, launch0.admits_env _ _ _, launch0.least_env, fairChoices_fair.cas, fairChoices_fair.clock, w_frames, w_args, w_heap, w_applies, ⟨w_consts, trivial⟩, w_rest, w_case⟩
end start1
theorem witness_1 : WitnessClaimed_1 := ⟨start1.p0, start1.e0, start1.about1, start1.theMethod, start1.args0, start1.below0, start1.atStart⟩
end Jvm.Pilot.@@N@@
