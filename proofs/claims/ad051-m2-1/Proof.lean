import JvmDerived
import JvmDerived.Pilot.@@N@@Statement
import JvmDerived.Pilot.@@N@@Code
set_option linter.unusedVariables false
set_option linter.unusedSimpArgs false
namespace Jvm.OwnKit
open Sem ClassFile Op Lib Jvm.Stand Jvm.Free Jvm.LawKit Jvm.RoadKit
/-- from S the run comes to a state of which Φ holds -/
def Go (p : Program) (e : Env) (below : List Frame) (Φ : State → Prop) (S : State) : Prop := ∃ u, Steps p.tables e below S u ∧ Φ u
theorem Go.step {p : Program} {e : Env} {below : List Frame} {Φ : State → Prop} {S S' : State} (h : ∀ t, Steps p.tables e below S' t → Steps p.tables e below S t) (k : Go p e below Φ S') : Go p e below Φ S := by
  obtain ⟨u, q, r⟩ := k
  exact ⟨u, h u q, r⟩
theorem Go.trans {p : Program} {e : Env} {below : List Frame} {Φ : State → Prop} {S S' : State} (h : Steps p.tables e below S S') (k : Go p e below Φ S') : Go p e below Φ S := by
  obtain ⟨u, q, r⟩ := k
  exact ⟨u, Steps.trans h q, r⟩
theorem Go.here {p : Program} {e : Env} {below : List Frame} {Φ : State → Prop} {S : State} (k : Φ S) : Go p e below Φ S := ⟨S, Steps.refl _, k⟩
/-- the end of a body -/
def FinQ (below : List Frame) (s : State) (Q : Option Value → Heap → List Loc → Prop) (k n : Nat) (u : State) : Prop :=
  ∃ o, u.status = .running ∧ Ended u below o ∧ ∃ v L, o = .returned v ∧ Q v u.heap L ∧ FrameEnd s o u L k n
theorem Go.done {p : Program} {e : Env} {below : List Frame} {s : State} {Q : Option Value → Heap → List Loc → Prop} {k n : Nat} {S : State} (h : Go p e below (FinQ below s Q k n) S) :
    ∃ s₂ o, Steps p.tables e below S s₂ ∧ s₂.status = .running ∧ Ended s₂ below o ∧ ∃ v L, o = .returned v ∧ Q v s₂.heap L ∧ FrameEnd s o s₂ L k n := by
  obtain ⟨u, q, o, r1, r2, r3⟩ := h
  exact ⟨u, o, q, r1, r2, r3⟩
section New
variable {p : Program} {l : Launch} {e : Env} {R : Room} {s : State} {m : MethodId} {args : Array Value} {below : List Frame} {meth : Method} {c : Code} {T : State} {locs : List Loc} {cells slots : Nat}
/-- the run stands at the frame F, in a heap h -/
def AtF (p : Program) (l : Launch) (e : Env) (R : Room) (s : State) (m : MethodId) (args : Array Value) (below : List Frame) (meth : Method) (c : Code) (n0 cells slots : Nat) (h : Heap) (F : JFrame) (u : State) : Prop :=
  ∃ T' locs', u = T'.setTop F ∧ Stand p l e R s m args below meth c T' locs' cells slots ∧ Fr n0 locs' ∧ T'.heap = h
theorem retG {pc : Nat} {Ls : Array Slot} {w : Value} {t : FieldType} {i : Instr} {rest : List Value} {Q : Option Value → Heap → List Loc → Prop} {k n : Nat}
    (X : Stand p l e R s m args below meth c T locs cells slots) (hx : p.tables.exec = Jvm.exec) (hlocks : meth.locks = false) (hret : meth.sig.returnType = some t) (hn : narrow t w = w)
    (hi : (i = .ireturn ∧ (t = .int ∨ t = .boolean ∨ t = .byte ∨ t = .char ∨ t = .short) ∧ ∃ z, w = .int z) ∨ (i = .lreturn ∧ t = .long ∧ ∃ z, w = .long z) ∨ (i = .dreturn ∧ t = .double ∧ ∃ z, w = .double z) ∨ (i = .freturn ∧ t = .float ∧ ∃ z, w = .float z) ∨ (i = .areturn ∧ t.isReference = true ∧ w.isRef = true))
    (hd : decode c.code pc = .ok (i, 1)) (hQ : Q (some w) T.heap locs) (hc : cells ≤ k) (hs : slots ≤ n) : Go p e below (FinQ below s Q k n) (T.setTop (mkF m pc Ls (w :: rest))) := by
  obtain ⟨fs, hr, hrun, hended, hW, hsame⟩ := X.leave (v := some w) (fun h => by rw [hret] at h; cases h) hlocks
  exact ⟨_, retOut X hx hret hn hi hd hr, _, hrun, hended, _, _, rfl, hQ, ⟨_, rfl⟩, hW, hsame.mono hc hs⟩
theorem retGI {pc : Nat} {Ls : Array Slot} {z : Int32} {rest : List Value} {Q : Option Value → Heap → List Loc → Prop} {k n : Nat}
    (X : Stand p l e R s m args below meth c T locs cells slots) (hx : p.tables.exec = Jvm.exec) (hlocks : meth.locks = false) (hret : meth.sig.returnType = some .int)
    (hd : decode c.code pc = .ok (.ireturn, 1)) (hQ : Q (some (.int z)) T.heap locs) (hc : cells ≤ k) (hs : slots ≤ n) : Go p e below (FinQ below s Q k n) (T.setTop (mkF m pc Ls (.int z :: rest))) :=
  retG X hx hlocks hret rfl (Or.inl ⟨rfl, Or.inl rfl, _, rfl⟩) hd hQ hc hs
theorem retGJ {pc : Nat} {Ls : Array Slot} {z : Int64} {rest : List Value} {Q : Option Value → Heap → List Loc → Prop} {k n : Nat}
    (X : Stand p l e R s m args below meth c T locs cells slots) (hx : p.tables.exec = Jvm.exec) (hlocks : meth.locks = false) (hret : meth.sig.returnType = some .long)
    (hd : decode c.code pc = .ok (.lreturn, 1)) (hQ : Q (some (.long z)) T.heap locs) (hc : cells ≤ k) (hs : slots ≤ n) : Go p e below (FinQ below s Q k n) (T.setTop (mkF m pc Ls (.long z :: rest))) :=
  retG X hx hlocks hret rfl (Or.inr (Or.inl ⟨rfl, rfl, _, rfl⟩)) hd hQ hc hs
theorem retGR {pc : Nat} {Ls : Array Slot} {a : Addr} {t : FieldType} {rest : List Value} {Q : Option Value → Heap → List Loc → Prop} {k n : Nat}
    (X : Stand p l e R s m args below meth c T locs cells slots) (hx : p.tables.exec = Jvm.exec) (hlocks : meth.locks = false) (hret : meth.sig.returnType = some t) (ht : t.isReference = true) (hn : narrow t (.ref a) = .ref a)
    (hd : decode c.code pc = .ok (.areturn, 1)) (hQ : Q (some (.ref a)) T.heap locs) (hc : cells ≤ k) (hs : slots ≤ n) : Go p e below (FinQ below s Q k n) (T.setTop (mkF m pc Ls (.ref a :: rest))) :=
  retG X hx hlocks hret hn (Or.inr (Or.inr (Or.inr (Or.inr ⟨rfl, ht, rfl⟩)))) hd hQ hc hs
theorem retGN {pc : Nat} {Ls : Array Slot} {z z' : Int32} {t : FieldType} {rest : List Value} {Q : Option Value → Heap → List Loc → Prop} {k n : Nat}
    (X : Stand p l e R s m args below meth c T locs cells slots) (hx : p.tables.exec = Jvm.exec) (hlocks : meth.locks = false) (hret : meth.sig.returnType = some t) (ht : t = .boolean ∨ t = .byte ∨ t = .char ∨ t = .short) (hz : nar t z = z')
    (hd : decode c.code pc = .ok (.ireturn, 1)) (hQ : Q (some (.int z')) T.heap locs) (hc : cells ≤ k) (hs : slots ≤ n) : Go p e below (FinQ below s Q k n) (T.setTop (mkF m pc Ls (.int z :: rest))) := by
  subst hz
  obtain ⟨fs, hr, hrun, hended, hW, hsame⟩ := X.leave (v := some (.int (nar t z))) (fun h => by rw [hret] at h; cases h) hlocks
  exact ⟨_, retN X hx hret ht hd hr, _, hrun, hended, _, _, rfl, hQ, ⟨_, rfl⟩, hW, hsame.mono hc hs⟩
theorem retGV {pc : Nat} {Ls : Array Slot} {Q : Option Value → Heap → List Loc → Prop} {k n : Nat}
    (X : Stand p l e R s m args below meth c T locs cells slots) (hx : p.tables.exec = Jvm.exec) (hlocks : meth.locks = false) (hret : meth.sig.returnType = none)
    (hd : decode c.code pc = .ok (.return_, 1)) (hQ : Q none T.heap locs) (hc : cells ≤ k) (hs : slots ≤ n) : Go p e below (FinQ below s Q k n) (T.setTop (mkF m pc Ls [])) := by
  obtain ⟨fs, hr, hrun, hended, hW, hsame⟩ := X.leave (v := none) (fun _ => rfl) hlocks
  exact ⟨_, X.returnOut hx hret hd hr, _, hrun, hended, _, _, rfl, hQ, ⟨_, rfl⟩, hW, hsame.mono hc hs⟩
end New
/-- a body that writes nothing and returns r -/
def QP (r : Value) (h0 : Heap) (n0 : Nat) (v : Option Value) (h : Heap) (L : List Loc) : Prop := v = some r ∧ Fr n0 L ∧ h = h0
def QV (h0 : Heap) (n0 : Nat) (v : Option Value) (h : Heap) (L : List Loc) : Prop := v = none ∧ Fr n0 L ∧ h = h0
/-- a law: it returns r and writes nothing old -/
def QL (r : Value) (n0 : Nat) (v : Option Value) (h : Heap) (L : List Loc) : Prop := v = some r ∧ Fr n0 L
theorem remI (x y : Int32) : x - (x / y) * y = x % y := by
  rw [← Int32.toInt_inj, Int32.toInt_sub, Int32.toInt_mul, Int32.toInt_div, Int32.toInt_mod]
  have h := Int.tmod_add_mul_tdiv x.toInt y.toInt
  have r : (x.toInt.tmod y.toInt).bmod (2 ^ 32) = x.toInt.tmod y.toInt := by
    have := Int32.toInt_bmod (x % y)
    rwa [Int32.toInt_mod] at this
  rw [← r]
  have e : ((x.toInt.tdiv y.toInt).bmod (2 ^ 32) * y.toInt).bmod (2 ^ 32) = (x.toInt.tdiv y.toInt * y.toInt).bmod (2 ^ 32) := by simp
  rw [e, Int.sub_bmod_bmod]
  congr 1
  have := Int.mul_comm (x.toInt.tdiv y.toInt) y.toInt
  omega
theorem addI {x y : Int32} (h1 : -2147483648 ≤ x.toInt + y.toInt) (h2 : x.toInt + y.toInt < 2147483648) : (x + y).toInt = x.toInt + y.toInt := by have := c_iadd x y; have := rng32 (x + y); omega
theorem subI {x y : Int32} (h1 : -2147483648 ≤ x.toInt - y.toInt) (h2 : x.toInt - y.toInt < 2147483648) : (x - y).toInt = x.toInt - y.toInt := by have := c_isub x y; have := rng32 (x - y); omega
theorem mulI {x y : Int32} (h1 : -2147483648 ≤ x.toInt * y.toInt) (h2 : x.toInt * y.toInt < 2147483648) : (x * y).toInt = x.toInt * y.toInt := by have := c_imul x y; have := rng32 (x * y); omega
theorem addL {x y : Int64} (h1 : -9223372036854775808 ≤ x.toInt + y.toInt) (h2 : x.toInt + y.toInt < 9223372036854775808) : (x + y).toInt = x.toInt + y.toInt := by have := c_ladd x y; have := rng64 (x + y); omega
theorem subL {x y : Int64} (h1 : -9223372036854775808 ≤ x.toInt - y.toInt) (h2 : x.toInt - y.toInt < 9223372036854775808) : (x - y).toInt = x.toInt - y.toInt := by have := c_lsub x y; have := rng64 (x - y); omega
theorem mulL {x y : Int64} (h1 : -9223372036854775808 ≤ x.toInt * y.toInt) (h2 : x.toInt * y.toInt < 9223372036854775808) : (x * y).toInt = x.toInt * y.toInt := by have := c_lmul x y; have := rng64 (x * y); omega
theorem modI {x y : Int32} (d : Int) (hy : y.toInt = d) (hx : 0 ≤ x.toInt) : (x % y).toInt = x.toInt % d := by rw [Int32.toInt_mod, hy]; exact (tr _ _).1 hx
theorem modL {x y : Int64} (d : Int) (hy : y.toInt = d) (hx : 0 ≤ x.toInt) : (x % y).toInt = x.toInt % d := by rw [Int64.toInt_mod, hy]; exact (tr _ _).1 hx
end Jvm.OwnKit
namespace Jvm.Pilot.@@N@@
open Jvm Jvm.ClassFile Sem Op Lib Jvm.Free Jvm.Stand Jvm.LawKit Jvm.RoadKit Jvm.OwnKit Bundle Jvm.Pilot.@@N@@.Jvm.D
theorem d1_0 : decode prog_55_method_1_code 0 = .ok (.aload_n 0, 1) := by decide +kernel
theorem d1_1 : decode prog_55_method_1_code 1 = .ok (.invokespecial 1, 3) := by decide +kernel
theorem d1_4 : decode prog_55_method_1_code 4 = .ok (.iload_n 1, 1) := by decide +kernel
theorem d1_5 : decode prog_55_method_1_code 5 = .ok (.ifCond .lt 19, 3) := by decide +kernel
theorem d1_8 : decode prog_55_method_1_code 8 = .ok (.iload_n 1, 1) := by decide +kernel
theorem d1_9 : decode prog_55_method_1_code 9 = .ok (.bipush 24, 2) := by decide +kernel
theorem d1_11 : decode prog_55_method_1_code 11 = .ok (.if_icmp .ge 13, 3) := by decide +kernel
theorem d1_14 : decode prog_55_method_1_code 14 = .ok (.iload_n 2, 1) := by decide +kernel
theorem d1_15 : decode prog_55_method_1_code 15 = .ok (.ifCond .lt 9, 3) := by decide +kernel
theorem d1_18 : decode prog_55_method_1_code 18 = .ok (.iload_n 2, 1) := by decide +kernel
theorem d1_19 : decode prog_55_method_1_code 19 = .ok (.bipush 24, 2) := by decide +kernel
theorem d1_21 : decode prog_55_method_1_code 21 = .ok (.if_icmp .lt 18, 3) := by decide +kernel
theorem d1_39 : decode prog_55_method_1_code 39 = .ok (.iload_n 1, 1) := by decide +kernel
theorem d1_40 : decode prog_55_method_1_code 40 = .ok (.iload_n 2, 1) := by decide +kernel
theorem d1_41 : decode prog_55_method_1_code 41 = .ok (.if_icmp .ne 18, 3) := by decide +kernel
theorem d1_59 : decode prog_55_method_1_code 59 = .ok (.aload_n 0, 1) := by decide +kernel
theorem d1_60 : decode prog_55_method_1_code 60 = .ok (.iload_n 1, 1) := by decide +kernel
theorem d1_61 : decode prog_55_method_1_code 61 = .ok (.putfield 19, 3) := by decide +kernel
theorem d1_64 : decode prog_55_method_1_code 64 = .ok (.aload_n 0, 1) := by decide +kernel
theorem d1_65 : decode prog_55_method_1_code 65 = .ok (.iload_n 2, 1) := by decide +kernel
theorem d1_66 : decode prog_55_method_1_code 66 = .ok (.putfield 23, 3) := by decide +kernel
theorem d1_69 : decode prog_55_method_1_code 69 = .ok (.return_, 1) := by decide +kernel
theorem ef_1 (m : MethodId) (a1 : Addr) (p2 : Int32) (p3 : Int32) : entryFrame m #[(.ref a1), (.int p2), (.int p3)] 3 = mkF m 0 #[.val (.ref a1), .val (.int p2), .val (.int p3)] [] := by first | (simp [entryFrame, mkF, argsToLocals, Value.category]; done) | rfl
theorem pn_0 : plainName "com/example/biller/biller/components/ClockSpan" = true := by first | (simp [plainName, overriddenIn]; done) | decide +kernel
def Q1 (Z : State) (a1 : Addr) (p2 : Int32) (p3 : Int32) (w_to_a1 : Int32) (w_from_a1 : Int32) (h0 : Heap) (n0 : Nat) (v : Option Value) (h : Heap) (L : List Loc) : Prop := v = none ∧ Fr n0 L ∧ Keep h0 h [a1] ∧ Fld Z h a1 "com/example/biller/biller/components/ClockSpan" "to" "I" (.int p3) ∧ Exa Z h a1 "com/example/biller/biller/components/ClockSpan" ∧ Fld Z h a1 "com/example/biller/biller/components/ClockSpan" "from" "I" (.int p2)
set_option maxRecDepth 65536 in
set_option maxHeartbeats 40000000 in
theorem rm1 (l : Launch) (Z : State) (a0 : Array Value) (hw : ∀ d ∈ tables_1, d.before a0 Z = true) (ws : List Jvm.Cond) (a1 : Addr) (p2 : Int32) (p3 : Int32) (w_to_a1 : Int32) (w_from_a1 : Int32) (h0 : Heap) (n0 : Nat) (Z0 : n0 ≤ h0.size) (F_to_a1 : Fld Z h0 a1 "com/example/biller/biller/components/ClockSpan" "to" "I" (.int w_to_a1)) (hp5 : ¬ (p2 < (0 : Int32))) (hp11 : p2 < (24 : Int32)) (hp15 : ¬ (p3 < (0 : Int32))) (hp21 : p3 < (24 : Int32)) (hp41 : ¬ (p2 = p3)) (E_a1 : Exa Z h0 a1 "com/example/biller/biller/components/ClockSpan") (F_from_a1 : Fld Z h0 a1 "com/example/biller/biller/components/ClockSpan" "from" "I" (.int w_from_a1)) (g_a1 : n0 ≤ a1) :
    MetFree l (⟨"com/example/biller/biller/components/ClockSpan", "<init>", "(II)V"⟩ : MethodName) (head1 (Jvm.Cond.code (⟨"com/example/biller/biller/components/ClockSpan", "<init>", "(II)V"⟩ : MethodName) prog_55_method_1_code 3 none :: ws) ({ frames := 1, cells := 0, slots := 0, locals := 12 } : Room)) (fun a U => a = #[(.ref a1), (.int p2), (.int p3)] ∧ Z.Warmed39 U.vm ∧ U.heap = h0) (fun _ _ _ _ _ => True) (fun _ U o U' => ∃ v L, o = .returned v ∧ Q1 Z a1 p2 p3 w_to_a1 w_from_a1 h0 n0 v U'.heap L ∧ FrameEnd U o U' L ({ frames := 1, cells := 0, slots := 0, locals := 12 } : Room).cells ({ frames := 1, cells := 0, slots := 0, locals := 12 } : Room).slots) := by
  refine MetFree.of_bodySF (plainFor_of_name pn_0) hisR ?_
  intro p e s m args below meth c s₁ Bd hml0 hP hK
  obtain ⟨rfl, hZ, hh⟩ := hP
  have hx := Bd.exec
  have hby := Bd.bytes
  have hml : c.maxLocals = 3 := hml0
  have hown : s.vm.findClass "com/example/biller/biller/components/ClockSpan" = some m.cls := findClass_of_methodNamed Bd.named
  have hnm := (name_of_methodNamed Bd.named Bd.method).1
  have X0 : Stand p l e ({ frames := 1, cells := 0, slots := 0, locals := 12 } : Room) s m #[(.ref a1), (.int p2), (.int p3)] below meth c s₁ [] 0 0 := Stand.of_body Bd
  have e0 : s₁.heap = h0 := by rw [← hh, Bd.state]; rfl
  have N0 := Fr.nil n0
  refine Go.done (Go.step (fun t k => castTop (ef_1 m a1 p2 p3) k) ?_)
  have KK0 : Keep h0 h0 [a1] := Keep.refl _ _
  show Go p e below _ (s₁.setTop (mkF m 0 #[.val (.ref a1), .val (.int p2), .val (.int p3)] []))
  refine Go.step (fun t k => XS.aloadN X0.here hx rfl (hb hby d1_0) rfl rfl k) ?_
  show Go p e below _ (s₁.setTop (mkF m 1 #[.val (.ref a1), .val (.int p2), .val (.int p3)] [(.ref a1)]))
  obtain ⟨T4, X4, e4, st4⟩ := initO X0 hx hZ hown (hw _ (List.mem_of_getElem? (i := 7) rfl)) (hw _ (List.mem_of_getElem? (i := 8) rfl)) (hw _ (List.mem_of_getElem? (i := 9) rfl)) e0 (g := (mkF m 1 #[.val (.ref a1), .val (.int p2), .val (.int p3)] [(.ref a1)])) rfl (by rw [hml]; rfl) rfl (hb hby d1_1) (by decide) (W := 0) (by show 2 * 0 + _ ≤ _; exact Nat.le_of_eq rfl) (by decide)
  refine Go.step st4 ?_
  show Go p e below _ (T4.setTop (mkF m 4 #[.val (.ref a1), .val (.int p2), .val (.int p3)] []))
  refine Go.step (fun t k => XS.iloadN X4.here hx rfl (hb hby d1_4) rfl k) ?_
  show Go p e below _ (T4.setTop (mkF m 5 #[.val (.ref a1), .val (.int p2), .val (.int p3)] [(.int p2)]))
  refine Go.step (fun t k => XS.ifNo X4.here hx rfl (hb hby d1_5) rfl ((if0 _ _).trans (flt hp5).1) k) ?_
  show Go p e below _ (T4.setTop (mkF m 8 #[.val (.ref a1), .val (.int p2), .val (.int p3)] []))
  refine Go.step (fun t k => XS.iloadN X4.here hx rfl (hb hby d1_8) rfl k) ?_
  show Go p e below _ (T4.setTop (mkF m 9 #[.val (.ref a1), .val (.int p2), .val (.int p3)] [(.int p2)]))
  refine Go.step (fun t k => XS.bipush X4.here hx rfl (hb hby d1_9)  k) ?_
  show Go p e below _ (T4.setTop (mkF m 11 #[.val (.ref a1), .val (.int p2), .val (.int p3)] [(.int (24 : Int32)), (.int p2)]))
  refine Go.step (fun t k => XS.icmpNo X4.here hx rfl (hb hby d1_11) rfl (tlt hp11).2.1 k) ?_
  show Go p e below _ (T4.setTop (mkF m 14 #[.val (.ref a1), .val (.int p2), .val (.int p3)] []))
  refine Go.step (fun t k => XS.iloadN X4.here hx rfl (hb hby d1_14) rfl k) ?_
  show Go p e below _ (T4.setTop (mkF m 15 #[.val (.ref a1), .val (.int p2), .val (.int p3)] [(.int p3)]))
  refine Go.step (fun t k => XS.ifNo X4.here hx rfl (hb hby d1_15) rfl ((if0 _ _).trans (flt hp15).1) k) ?_
  show Go p e below _ (T4.setTop (mkF m 18 #[.val (.ref a1), .val (.int p2), .val (.int p3)] []))
  refine Go.step (fun t k => XS.iloadN X4.here hx rfl (hb hby d1_18) rfl k) ?_
  show Go p e below _ (T4.setTop (mkF m 19 #[.val (.ref a1), .val (.int p2), .val (.int p3)] [(.int p3)]))
  refine Go.step (fun t k => XS.bipush X4.here hx rfl (hb hby d1_19)  k) ?_
  show Go p e below _ (T4.setTop (mkF m 21 #[.val (.ref a1), .val (.int p2), .val (.int p3)] [(.int (24 : Int32)), (.int p3)]))
  refine Go.step (fun t k => XS.icmpYes X4.here hx rfl (pc0 := 21) (pc' := 39) rfl (hb hby d1_21) rfl (tlt hp21).1 (by decide) (by decide) k) ?_
  show Go p e below _ (T4.setTop (mkF m 39 #[.val (.ref a1), .val (.int p2), .val (.int p3)] []))
  refine Go.step (fun t k => XS.iloadN X4.here hx rfl (hb hby d1_39) rfl k) ?_
  show Go p e below _ (T4.setTop (mkF m 40 #[.val (.ref a1), .val (.int p2), .val (.int p3)] [(.int p2)]))
  refine Go.step (fun t k => XS.iloadN X4.here hx rfl (hb hby d1_40) rfl k) ?_
  show Go p e below _ (T4.setTop (mkF m 41 #[.val (.ref a1), .val (.int p2), .val (.int p3)] [(.int p3), (.int p2)]))
  refine Go.step (fun t k => XS.icmpYes X4.here hx rfl (pc0 := 41) (pc' := 59) rfl (hb hby d1_41) rfl (feq hp41).2 (by decide) (by decide) k) ?_
  show Go p e below _ (T4.setTop (mkF m 59 #[.val (.ref a1), .val (.int p2), .val (.int p3)] []))
  refine Go.step (fun t k => XS.aloadN X4.here hx rfl (hb hby d1_59) rfl rfl k) ?_
  show Go p e below _ (T4.setTop (mkF m 60 #[.val (.ref a1), .val (.int p2), .val (.int p3)] [(.ref a1)]))
  refine Go.step (fun t k => XS.iloadN X4.here hx rfl (hb hby d1_60) rfl k) ?_
  show Go p e below _ (T4.setTop (mkF m 61 #[.val (.ref a1), .val (.int p2), .val (.int p3)] [(.int p2), (.ref a1)]))
  obtain ⟨T5, h5, X5, e5, W5, st5⟩ := putF X4 hx hZ hown (host := "") (Or.inl (hw _ (List.mem_of_getElem? (i := 10) rfl))) Via.refl e4 F_from_a1 E_a1 (Or.inr ⟨(hw _ (List.mem_of_getElem? (i := 11) rfl)), rfl, hnm⟩) (hw _ (List.mem_of_getElem? (i := 2) rfl)) (ty := .int) (by decide) rfl rfl (g := (mkF m 61 #[.val (.ref a1), .val (.int p2), .val (.int p3)] [(.int p2), (.ref a1)])) rfl rfl (hb hby d1_61)
  refine Go.step st5 ?_
  have N5 := Fr.snoc X5 N0 g_a1
  have F_to_a1_5 := F_to_a1.other W5 (Or.inr (slot_ne (Or.inr (hw _ (List.mem_of_getElem? (i := 13) rfl))) (Or.inr (hw _ (List.mem_of_getElem? (i := 11) rfl))) (by decide) (t := .int) (t' := .int) (by decide) (by decide)))
  have E_a1_5 := E_a1.wr W5
  have Z5 := Nat.le_trans Z0 (Keep.of_wr W5).1
  have KK5 : Keep h0 h5 [a1] := KK0.wr W5 (Or.inl (by simp))
  have F_from_a1_5 := F_from_a1.same W5
  show Go p e below _ (T5.setTop (mkF m 64 #[.val (.ref a1), .val (.int p2), .val (.int p3)] []))
  refine Go.step (fun t k => XS.aloadN X5.here hx rfl (hb hby d1_64) rfl rfl k) ?_
  show Go p e below _ (T5.setTop (mkF m 65 #[.val (.ref a1), .val (.int p2), .val (.int p3)] [(.ref a1)]))
  refine Go.step (fun t k => XS.iloadN X5.here hx rfl (hb hby d1_65) rfl k) ?_
  show Go p e below _ (T5.setTop (mkF m 66 #[.val (.ref a1), .val (.int p2), .val (.int p3)] [(.int p3), (.ref a1)]))
  obtain ⟨T6, h6, X6, e6, W6, st6⟩ := putF X5 hx hZ hown (host := "") (Or.inl (hw _ (List.mem_of_getElem? (i := 12) rfl))) Via.refl e5 F_to_a1_5 E_a1_5 (Or.inr ⟨(hw _ (List.mem_of_getElem? (i := 13) rfl)), rfl, hnm⟩) (hw _ (List.mem_of_getElem? (i := 2) rfl)) (ty := .int) (by decide) rfl rfl (g := (mkF m 66 #[.val (.ref a1), .val (.int p2), .val (.int p3)] [(.int p3), (.ref a1)])) rfl rfl (hb hby d1_66)
  refine Go.step st6 ?_
  have N6 := Fr.snoc X6 N5 g_a1
  have E_a1_6 := E_a1_5.wr W6
  have F_from_a1_6 := F_from_a1_5.other W6 (Or.inr (slot_ne (Or.inr (hw _ (List.mem_of_getElem? (i := 11) rfl))) (Or.inr (hw _ (List.mem_of_getElem? (i := 13) rfl))) (by decide) (t := .int) (t' := .int) (by decide) (by decide)))
  have Z6 := Nat.le_trans Z5 (Keep.of_wr W6).1
  have KK6 : Keep h0 h6 [a1] := KK5.wr W6 (Or.inl (by simp))
  have F_to_a1_6 := F_to_a1_5.same W6
  show Go p e below _ (T6.setTop (mkF m 69 #[.val (.ref a1), .val (.int p2), .val (.int p3)] []))
  refine retGV X6 hx Bd.notSynchronized Bd.returns (hb hby d1_69) ?_ (by decide) (by decide)
  show Q1 Z a1 p2 p3 w_to_a1 w_from_a1 h0 n0 _ T6.heap _
  rw [e6]
  exact ⟨rfl, N6, KK6, F_to_a1_6, E_a1_6, F_from_a1_6⟩
theorem d3_0 : decode prog_55_method_4_code 0 = .ok (.aload_n 0, 1) := by decide +kernel
theorem d3_1 : decode prog_55_method_4_code 1 = .ok (.getfield 19, 3) := by decide +kernel
theorem d3_4 : decode prog_55_method_4_code 4 = .ok (.aload_n 0, 1) := by decide +kernel
theorem d3_5 : decode prog_55_method_4_code 5 = .ok (.getfield 23, 3) := by decide +kernel
theorem d3_8 : decode prog_55_method_4_code 8 = .ok (.if_icmp .ge 27, 3) := by decide +kernel
theorem d3_11 : decode prog_55_method_4_code 11 = .ok (.iload_n 1, 1) := by decide +kernel
theorem d3_12 : decode prog_55_method_4_code 12 = .ok (.aload_n 0, 1) := by decide +kernel
theorem d3_13 : decode prog_55_method_4_code 13 = .ok (.getfield 19, 3) := by decide +kernel
theorem d3_16 : decode prog_55_method_4_code 16 = .ok (.if_icmp .lt 15, 3) := by decide +kernel
theorem d3_31 : decode prog_55_method_4_code 31 = .ok (.iconst 0, 1) := by decide +kernel
theorem d3_32 : decode prog_55_method_4_code 32 = .ok (.goto 24, 3) := by decide +kernel
theorem d3_56 : decode prog_55_method_4_code 56 = .ok (.ireturn, 1) := by decide +kernel
theorem d3_19 : decode prog_55_method_4_code 19 = .ok (.iload_n 1, 1) := by decide +kernel
theorem d3_20 : decode prog_55_method_4_code 20 = .ok (.aload_n 0, 1) := by decide +kernel
theorem d3_21 : decode prog_55_method_4_code 21 = .ok (.getfield 23, 3) := by decide +kernel
theorem d3_24 : decode prog_55_method_4_code 24 = .ok (.if_icmp .ge 7, 3) := by decide +kernel
theorem d3_27 : decode prog_55_method_4_code 27 = .ok (.iconst 1, 1) := by decide +kernel
theorem d3_28 : decode prog_55_method_4_code 28 = .ok (.goto 28, 3) := by decide +kernel
theorem d3_35 : decode prog_55_method_4_code 35 = .ok (.iload_n 1, 1) := by decide +kernel
theorem d3_36 : decode prog_55_method_4_code 36 = .ok (.aload_n 0, 1) := by decide +kernel
theorem d3_37 : decode prog_55_method_4_code 37 = .ok (.getfield 19, 3) := by decide +kernel
theorem d3_40 : decode prog_55_method_4_code 40 = .ok (.if_icmp .ge 11, 3) := by decide +kernel
theorem d3_43 : decode prog_55_method_4_code 43 = .ok (.iload_n 1, 1) := by decide +kernel
theorem d3_44 : decode prog_55_method_4_code 44 = .ok (.aload_n 0, 1) := by decide +kernel
theorem d3_45 : decode prog_55_method_4_code 45 = .ok (.getfield 23, 3) := by decide +kernel
theorem d3_48 : decode prog_55_method_4_code 48 = .ok (.if_icmp .ge 7, 3) := by decide +kernel
theorem d3_51 : decode prog_55_method_4_code 51 = .ok (.iconst 1, 1) := by decide +kernel
theorem d3_52 : decode prog_55_method_4_code 52 = .ok (.goto 4, 3) := by decide +kernel
theorem d3_55 : decode prog_55_method_4_code 55 = .ok (.iconst 0, 1) := by decide +kernel
theorem ef_3 (m : MethodId) (a1 : Addr) (p2 : Int32) : entryFrame m #[(.ref a1), (.int p2)] 2 = mkF m 0 #[.val (.ref a1), .val (.int p2)] [] := by first | (simp [entryFrame, mkF, argsToLocals, Value.category]; done) | rfl
def f3 (p2 : Int32) (w_from_a1 : Int32) (w_to_a1 : Int32) : Int32 := (if w_from_a1 < w_to_a1 then (if p2 < w_from_a1 then (0 : Int32) else (if p2 < w_to_a1 then (1 : Int32) else (0 : Int32))) else (if p2 < w_from_a1 then (if p2 < w_to_a1 then (1 : Int32) else (0 : Int32)) else (1 : Int32)))
set_option maxRecDepth 65536 in
set_option maxHeartbeats 40000000 in
theorem rm3 (l : Launch) (Z : State) (a0 : Array Value) (hw : ∀ d ∈ tables_1, d.before a0 Z = true) (ws : List Jvm.Cond) (a1 : Addr) (p2 : Int32) (w_from_a1 : Int32) (w_to_a1 : Int32) (h0 : Heap) (n0 : Nat) (Z0 : n0 ≤ h0.size) (F_from_a1 : Fld Z h0 a1 "com/example/biller/biller/components/ClockSpan" "from" "I" (.int w_from_a1)) (F_to_a1 : Fld Z h0 a1 "com/example/biller/biller/components/ClockSpan" "to" "I" (.int w_to_a1)) :
    MetFree l (⟨"com/example/biller/biller/components/ClockSpan", "holds", "(I)Z"⟩ : MethodName) (head1 (Jvm.Cond.code (⟨"com/example/biller/biller/components/ClockSpan", "holds", "(I)Z"⟩ : MethodName) prog_55_method_4_code 2 (some .boolean) :: ws) ({ frames := 0, cells := 0, slots := 0, locals := 0 } : Room)) (fun a U => a = #[(.ref a1), (.int p2)] ∧ Z.Warmed39 U.vm ∧ U.heap = h0) (fun _ _ _ _ _ => True) (fun _ U o U' => ∃ v L, o = .returned v ∧ QP (.int (f3 p2 w_from_a1 w_to_a1)) h0 n0 v U'.heap L ∧ FrameEnd U o U' L ({ frames := 0, cells := 0, slots := 0, locals := 0 } : Room).cells ({ frames := 0, cells := 0, slots := 0, locals := 0 } : Room).slots) := by
  refine MetFree.of_bodySF (plainFor_of_name pn_0) hisR ?_
  intro p e s m args below meth c s₁ Bd hml0 hP hK
  obtain ⟨rfl, hZ, hh⟩ := hP
  have hx := Bd.exec
  have hby := Bd.bytes
  have hml : c.maxLocals = 2 := hml0
  have hown : s.vm.findClass "com/example/biller/biller/components/ClockSpan" = some m.cls := findClass_of_methodNamed Bd.named
  have hnm := (name_of_methodNamed Bd.named Bd.method).1
  have X0 : Stand p l e ({ frames := 0, cells := 0, slots := 0, locals := 0 } : Room) s m #[(.ref a1), (.int p2)] below meth c s₁ [] 0 0 := Stand.of_body Bd
  have e0 : s₁.heap = h0 := by rw [← hh, Bd.state]; rfl
  have N0 := Fr.nil n0
  refine Go.done (Go.step (fun t k => castTop (ef_3 m a1 p2) k) ?_)
  have KK0 : Keep h0 h0 [] := Keep.refl _ _
  show Go p e below _ (s₁.setTop (mkF m 0 #[.val (.ref a1), .val (.int p2)] []))
  refine Go.step (fun t k => XS.aloadN X0.here hx rfl (hb hby d3_0) rfl rfl k) ?_
  show Go p e below _ (s₁.setTop (mkF m 1 #[.val (.ref a1), .val (.int p2)] [(.ref a1)]))
  obtain ⟨T3, X3, e3, st3⟩ := getF X0 hx hZ hown (host := "") (Or.inl (hw _ (List.mem_of_getElem? (i := 10) rfl))) Via.refl e0 F_from_a1 (g := (mkF m 1 #[.val (.ref a1), .val (.int p2)] [(.ref a1)])) rfl rfl (hb hby d3_1)
  refine Go.step st3 ?_
  show Go p e below _ (T3.setTop (mkF m 4 #[.val (.ref a1), .val (.int p2)] [(.int w_from_a1)]))
  refine Go.step (fun t k => XS.aloadN X3.here hx rfl (hb hby d3_4) rfl rfl k) ?_
  show Go p e below _ (T3.setTop (mkF m 5 #[.val (.ref a1), .val (.int p2)] [(.ref a1), (.int w_from_a1)]))
  obtain ⟨T4, X4, e4, st4⟩ := getF X3 hx hZ hown (host := "") (Or.inl (hw _ (List.mem_of_getElem? (i := 12) rfl))) Via.refl e3 F_to_a1 (g := (mkF m 5 #[.val (.ref a1), .val (.int p2)] [(.ref a1), (.int w_from_a1)])) rfl rfl (hb hby d3_5)
  refine Go.step st4 ?_
  show Go p e below _ (T4.setTop (mkF m 8 #[.val (.ref a1), .val (.int p2)] [(.int w_to_a1), (.int w_from_a1)]))
  by_cases hc5 : w_from_a1 < w_to_a1
  · refine Go.step (fun t k => XS.icmpNo X4.here hx rfl (hb hby d3_8) rfl (tlt hc5).2.1 k) ?_
    show Go p e below _ (T4.setTop (mkF m 11 #[.val (.ref a1), .val (.int p2)] []))
    refine Go.step (fun t k => XS.iloadN X4.here hx rfl (hb hby d3_11) rfl k) ?_
    show Go p e below _ (T4.setTop (mkF m 12 #[.val (.ref a1), .val (.int p2)] [(.int p2)]))
    refine Go.step (fun t k => XS.aloadN X4.here hx rfl (hb hby d3_12) rfl rfl k) ?_
    show Go p e below _ (T4.setTop (mkF m 13 #[.val (.ref a1), .val (.int p2)] [(.ref a1), (.int p2)]))
    obtain ⟨T6, X6, e6, st6⟩ := getF X4 hx hZ hown (host := "") (Or.inl (hw _ (List.mem_of_getElem? (i := 10) rfl))) Via.refl e4 F_from_a1 (g := (mkF m 13 #[.val (.ref a1), .val (.int p2)] [(.ref a1), (.int p2)])) rfl rfl (hb hby d3_13)
    refine Go.step st6 ?_
    show Go p e below _ (T6.setTop (mkF m 16 #[.val (.ref a1), .val (.int p2)] [(.int w_from_a1), (.int p2)]))
    by_cases hc7 : p2 < w_from_a1
    · refine Go.step (fun t k => XS.icmpYes X6.here hx rfl (pc0 := 16) (pc' := 31) rfl (hb hby d3_16) rfl (tlt hc7).1 (by decide) (by decide) k) ?_
      show Go p e below _ (T6.setTop (mkF m 31 #[.val (.ref a1), .val (.int p2)] []))
      refine Go.step (fun t k => XS.iconst X6.here hx rfl (hb hby d3_31)  k) ?_
      show Go p e below _ (T6.setTop (mkF m 32 #[.val (.ref a1), .val (.int p2)] [(.int (0 : Int32))]))
      refine Go.step (fun t k => XS.goto X6.here hx rfl (pc0 := 32) (pc' := 56) rfl (hb hby d3_32) (by decide) (by decide) k) ?_
      show Go p e below _ (T6.setTop (mkF m 56 #[.val (.ref a1), .val (.int p2)] [(.int (0 : Int32))]))
      exact retGN X6 hx Bd.notSynchronized Bd.returns (t := .boolean) (by simp) (z' := (0 : Int32)) rfl (hb hby d3_56) ⟨by first | (simp only [f3, if_pos hc5, if_pos hc7]; done) | rfl | (simp [f3, if_pos hc5, if_pos hc7]; done), N0, e6⟩ (by decide) (by decide)
    · refine Go.step (fun t k => XS.icmpNo X6.here hx rfl (hb hby d3_16) rfl (flt hc7).1 k) ?_
      show Go p e below _ (T6.setTop (mkF m 19 #[.val (.ref a1), .val (.int p2)] []))
      refine Go.step (fun t k => XS.iloadN X6.here hx rfl (hb hby d3_19) rfl k) ?_
      show Go p e below _ (T6.setTop (mkF m 20 #[.val (.ref a1), .val (.int p2)] [(.int p2)]))
      refine Go.step (fun t k => XS.aloadN X6.here hx rfl (hb hby d3_20) rfl rfl k) ?_
      show Go p e below _ (T6.setTop (mkF m 21 #[.val (.ref a1), .val (.int p2)] [(.ref a1), (.int p2)]))
      obtain ⟨T8, X8, e8, st8⟩ := getF X6 hx hZ hown (host := "") (Or.inl (hw _ (List.mem_of_getElem? (i := 12) rfl))) Via.refl e6 F_to_a1 (g := (mkF m 21 #[.val (.ref a1), .val (.int p2)] [(.ref a1), (.int p2)])) rfl rfl (hb hby d3_21)
      refine Go.step st8 ?_
      show Go p e below _ (T8.setTop (mkF m 24 #[.val (.ref a1), .val (.int p2)] [(.int w_to_a1), (.int p2)]))
      by_cases hc9 : p2 < w_to_a1
      · refine Go.step (fun t k => XS.icmpNo X8.here hx rfl (hb hby d3_24) rfl (tlt hc9).2.1 k) ?_
        show Go p e below _ (T8.setTop (mkF m 27 #[.val (.ref a1), .val (.int p2)] []))
        refine Go.step (fun t k => XS.iconst X8.here hx rfl (hb hby d3_27)  k) ?_
        show Go p e below _ (T8.setTop (mkF m 28 #[.val (.ref a1), .val (.int p2)] [(.int (1 : Int32))]))
        refine Go.step (fun t k => XS.goto X8.here hx rfl (pc0 := 28) (pc' := 56) rfl (hb hby d3_28) (by decide) (by decide) k) ?_
        show Go p e below _ (T8.setTop (mkF m 56 #[.val (.ref a1), .val (.int p2)] [(.int (1 : Int32))]))
        exact retGN X8 hx Bd.notSynchronized Bd.returns (t := .boolean) (by simp) (z' := (1 : Int32)) rfl (hb hby d3_56) ⟨by first | (simp only [f3, if_pos hc5, if_neg hc7, if_pos hc9]; done) | rfl | (simp [f3, if_pos hc5, if_neg hc7, if_pos hc9]; done), N0, e8⟩ (by decide) (by decide)
      · refine Go.step (fun t k => XS.icmpYes X8.here hx rfl (pc0 := 24) (pc' := 31) rfl (hb hby d3_24) rfl (flt hc9).2.1 (by decide) (by decide) k) ?_
        show Go p e below _ (T8.setTop (mkF m 31 #[.val (.ref a1), .val (.int p2)] []))
        refine Go.step (fun t k => XS.iconst X8.here hx rfl (hb hby d3_31)  k) ?_
        show Go p e below _ (T8.setTop (mkF m 32 #[.val (.ref a1), .val (.int p2)] [(.int (0 : Int32))]))
        refine Go.step (fun t k => XS.goto X8.here hx rfl (pc0 := 32) (pc' := 56) rfl (hb hby d3_32) (by decide) (by decide) k) ?_
        show Go p e below _ (T8.setTop (mkF m 56 #[.val (.ref a1), .val (.int p2)] [(.int (0 : Int32))]))
        exact retGN X8 hx Bd.notSynchronized Bd.returns (t := .boolean) (by simp) (z' := (0 : Int32)) rfl (hb hby d3_56) ⟨by first | (simp only [f3, if_pos hc5, if_neg hc7, if_neg hc9]; done) | rfl | (simp [f3, if_pos hc5, if_neg hc7, if_neg hc9]; done), N0, e8⟩ (by decide) (by decide)
  · refine Go.step (fun t k => XS.icmpYes X4.here hx rfl (pc0 := 8) (pc' := 35) rfl (hb hby d3_8) rfl (flt hc5).2.1 (by decide) (by decide) k) ?_
    show Go p e below _ (T4.setTop (mkF m 35 #[.val (.ref a1), .val (.int p2)] []))
    refine Go.step (fun t k => XS.iloadN X4.here hx rfl (hb hby d3_35) rfl k) ?_
    show Go p e below _ (T4.setTop (mkF m 36 #[.val (.ref a1), .val (.int p2)] [(.int p2)]))
    refine Go.step (fun t k => XS.aloadN X4.here hx rfl (hb hby d3_36) rfl rfl k) ?_
    show Go p e below _ (T4.setTop (mkF m 37 #[.val (.ref a1), .val (.int p2)] [(.ref a1), (.int p2)]))
    obtain ⟨T10, X10, e10, st10⟩ := getF X4 hx hZ hown (host := "") (Or.inl (hw _ (List.mem_of_getElem? (i := 10) rfl))) Via.refl e4 F_from_a1 (g := (mkF m 37 #[.val (.ref a1), .val (.int p2)] [(.ref a1), (.int p2)])) rfl rfl (hb hby d3_37)
    refine Go.step st10 ?_
    show Go p e below _ (T10.setTop (mkF m 40 #[.val (.ref a1), .val (.int p2)] [(.int w_from_a1), (.int p2)]))
    by_cases hc11 : p2 < w_from_a1
    · refine Go.step (fun t k => XS.icmpNo X10.here hx rfl (hb hby d3_40) rfl (tlt hc11).2.1 k) ?_
      show Go p e below _ (T10.setTop (mkF m 43 #[.val (.ref a1), .val (.int p2)] []))
      refine Go.step (fun t k => XS.iloadN X10.here hx rfl (hb hby d3_43) rfl k) ?_
      show Go p e below _ (T10.setTop (mkF m 44 #[.val (.ref a1), .val (.int p2)] [(.int p2)]))
      refine Go.step (fun t k => XS.aloadN X10.here hx rfl (hb hby d3_44) rfl rfl k) ?_
      show Go p e below _ (T10.setTop (mkF m 45 #[.val (.ref a1), .val (.int p2)] [(.ref a1), (.int p2)]))
      obtain ⟨T12, X12, e12, st12⟩ := getF X10 hx hZ hown (host := "") (Or.inl (hw _ (List.mem_of_getElem? (i := 12) rfl))) Via.refl e10 F_to_a1 (g := (mkF m 45 #[.val (.ref a1), .val (.int p2)] [(.ref a1), (.int p2)])) rfl rfl (hb hby d3_45)
      refine Go.step st12 ?_
      show Go p e below _ (T12.setTop (mkF m 48 #[.val (.ref a1), .val (.int p2)] [(.int w_to_a1), (.int p2)]))
      by_cases hc13 : p2 < w_to_a1
      · refine Go.step (fun t k => XS.icmpNo X12.here hx rfl (hb hby d3_48) rfl (tlt hc13).2.1 k) ?_
        show Go p e below _ (T12.setTop (mkF m 51 #[.val (.ref a1), .val (.int p2)] []))
        refine Go.step (fun t k => XS.iconst X12.here hx rfl (hb hby d3_51)  k) ?_
        show Go p e below _ (T12.setTop (mkF m 52 #[.val (.ref a1), .val (.int p2)] [(.int (1 : Int32))]))
        refine Go.step (fun t k => XS.goto X12.here hx rfl (pc0 := 52) (pc' := 56) rfl (hb hby d3_52) (by decide) (by decide) k) ?_
        show Go p e below _ (T12.setTop (mkF m 56 #[.val (.ref a1), .val (.int p2)] [(.int (1 : Int32))]))
        exact retGN X12 hx Bd.notSynchronized Bd.returns (t := .boolean) (by simp) (z' := (1 : Int32)) rfl (hb hby d3_56) ⟨by first | (simp only [f3, if_neg hc5, if_pos hc11, if_pos hc13]; done) | rfl | (simp [f3, if_neg hc5, if_pos hc11, if_pos hc13]; done), N0, e12⟩ (by decide) (by decide)
      · refine Go.step (fun t k => XS.icmpYes X12.here hx rfl (pc0 := 48) (pc' := 55) rfl (hb hby d3_48) rfl (flt hc13).2.1 (by decide) (by decide) k) ?_
        show Go p e below _ (T12.setTop (mkF m 55 #[.val (.ref a1), .val (.int p2)] []))
        refine Go.step (fun t k => XS.iconst X12.here hx rfl (hb hby d3_55)  k) ?_
        show Go p e below _ (T12.setTop (mkF m 56 #[.val (.ref a1), .val (.int p2)] [(.int (0 : Int32))]))
        exact retGN X12 hx Bd.notSynchronized Bd.returns (t := .boolean) (by simp) (z' := (0 : Int32)) rfl (hb hby d3_56) ⟨by first | (simp only [f3, if_neg hc5, if_pos hc11, if_neg hc13]; done) | rfl | (simp [f3, if_neg hc5, if_pos hc11, if_neg hc13]; done), N0, e12⟩ (by decide) (by decide)
    · refine Go.step (fun t k => XS.icmpYes X10.here hx rfl (pc0 := 40) (pc' := 51) rfl (hb hby d3_40) rfl (flt hc11).2.1 (by decide) (by decide) k) ?_
      show Go p e below _ (T10.setTop (mkF m 51 #[.val (.ref a1), .val (.int p2)] []))
      refine Go.step (fun t k => XS.iconst X10.here hx rfl (hb hby d3_51)  k) ?_
      show Go p e below _ (T10.setTop (mkF m 52 #[.val (.ref a1), .val (.int p2)] [(.int (1 : Int32))]))
      refine Go.step (fun t k => XS.goto X10.here hx rfl (pc0 := 52) (pc' := 56) rfl (hb hby d3_52) (by decide) (by decide) k) ?_
      show Go p e below _ (T10.setTop (mkF m 56 #[.val (.ref a1), .val (.int p2)] [(.int (1 : Int32))]))
      exact retGN X10 hx Bd.notSynchronized Bd.returns (t := .boolean) (by simp) (z' := (1 : Int32)) rfl (hb hby d3_56) ⟨by first | (simp only [f3, if_neg hc5, if_neg hc11]; done) | rfl | (simp [f3, if_neg hc5, if_neg hc11]; done), N0, e10⟩ (by decide) (by decide)
theorem pd_0 : parseMethodDescriptor "(II)V" = some ⟨[.int, .int], none⟩ := by decide +kernel
theorem pd_1 : parseMethodDescriptor "(I)Z" = some ⟨[.int], some .boolean⟩ := by decide +kernel
theorem ef_0 (m : MethodId) (p1 : Int32) (p2 : Int32) (p3 : Int32) : entryFrame m #[(.int p1), (.int p2), (.int p3)] maxLocals = mkF m 0 #[.val (.int p1), .val (.int p2), .val (.int p3), .unset, .unset, .unset, .unset, .unset, .unset, .unset] [] := by first | (simp [entryFrame, mkF, argsToLocals, Value.category, maxLocals]; done) | rfl
theorem pn_1 : plainName "com/example/biller/biller/components/ClockSpanHoldsPinLaw" = true := by first | (simp [plainName, overriddenIn]; done) | decide +kernel
def f0 (p1 : Int32) (p2 : Int32) (p3 : Int32) : Int32 := (if (f3 ((p3 &&& (2147483647 : Int32)) % (24 : Int32)) ((p1 &&& (2147483647 : Int32)) % (24 : Int32)) (((((p1 &&& (2147483647 : Int32)) % (24 : Int32)) + (1 : Int32)) + ((p2 &&& (2147483647 : Int32)) % (23 : Int32))) % (24 : Int32))) = (if (((((p3 &&& (2147483647 : Int32)) % (24 : Int32)) - ((p1 &&& (2147483647 : Int32)) % (24 : Int32))) + (24 : Int32)) % (24 : Int32)) < ((((((((p1 &&& (2147483647 : Int32)) % (24 : Int32)) + (1 : Int32)) + ((p2 &&& (2147483647 : Int32)) % (23 : Int32))) % (24 : Int32)) - ((p1 &&& (2147483647 : Int32)) % (24 : Int32))) + (24 : Int32)) % (24 : Int32)) then (1 : Int32) else (0 : Int32)) then (1 : Int32) else (0 : Int32))
set_option maxRecDepth 65536 in
set_option maxHeartbeats 40000000 in
theorem rm0 (l : Launch) (Z : State) (a0 : Array Value) (hw : ∀ d ∈ tables_1, d.before a0 Z = true) (ws : List Jvm.Cond) (p1 : Int32) (p2 : Int32) (p3 : Int32) (h0 : Heap) (n0 : Nat) (Z0 : n0 ≤ h0.size) (hp40_hp5 : ¬ (((p1 &&& (2147483647 : Int32)) % (24 : Int32)) < (0 : Int32))) (hp40_hp11 : ((p1 &&& (2147483647 : Int32)) % (24 : Int32)) < (24 : Int32)) (hp40_hp15 : ¬ ((((((p1 &&& (2147483647 : Int32)) % (24 : Int32)) + (1 : Int32)) + ((p2 &&& (2147483647 : Int32)) % (23 : Int32))) % (24 : Int32)) < (0 : Int32))) (hp40_hp21 : (((((p1 &&& (2147483647 : Int32)) % (24 : Int32)) + (1 : Int32)) + ((p2 &&& (2147483647 : Int32)) % (23 : Int32))) % (24 : Int32)) < (24 : Int32)) (hp40_hp41 : ¬ (((p1 &&& (2147483647 : Int32)) % (24 : Int32)) = (((((p1 &&& (2147483647 : Int32)) % (24 : Int32)) + (1 : Int32)) + ((p2 &&& (2147483647 : Int32)) % (23 : Int32))) % (24 : Int32)))) :
    MetFree l x (head1 (Jvm.Cond.code x code maxLocals ret :: ws) room_1) (fun a U => a = #[(.int p1), (.int p2), (.int p3)] ∧ Z.Warmed39 U.vm ∧ U.heap = h0) (fun _ _ _ _ _ => True) (fun _ U o U' => ∃ v L, o = .returned v ∧ QL (.int (f0 p1 p2 p3)) n0 v U'.heap L ∧ FrameEnd U o U' L room_1.cells room_1.slots) := by
  refine MetFree.of_bodySF (plainFor_of_name pn_1) hisR ?_
  intro p e s m args below meth c s₁ Bd hml0 hP hK
  obtain ⟨rfl, hZ, hh⟩ := hP
  have hx := Bd.exec
  have hby := Bd.bytes
  have hml : c.maxLocals = 10 := hml0
  have hown : s.vm.findClass "com/example/biller/biller/components/ClockSpanHoldsPinLaw" = some m.cls := findClass_of_methodNamed Bd.named
  have hnm := (name_of_methodNamed Bd.named Bd.method).1
  have X0 : Stand p l e room_1 s m #[(.int p1), (.int p2), (.int p3)] below meth c s₁ [] 0 0 := Stand.of_body Bd
  have e0 : s₁.heap = h0 := by rw [← hh, Bd.state]; rfl
  have N0 := Fr.nil n0
  refine Go.done (Go.step (fun t k => castTop (ef_0 m p1 p2 p3) k) ?_)
  have KK0 : Keep h0 h0 [] := Keep.refl _ _
  show Go p e below _ (s₁.setTop (mkF m 0 #[.val (.int p1), .val (.int p2), .val (.int p3), .unset, .unset, .unset, .unset, .unset, .unset, .unset] []))
  refine Go.step (fun t k => XS.iloadN X0.here hx rfl (hb hby at_0) rfl k) ?_
  show Go p e below _ (s₁.setTop (mkF m 1 #[.val (.int p1), .val (.int p2), .val (.int p3), .unset, .unset, .unset, .unset, .unset, .unset, .unset] [(.int p1)]))
  refine Go.step (X0.ldcInt hx hown (mvT hZ (hw _ (List.mem_of_getElem? (i := 0) rfl))) (g := (mkF m 1 #[.val (.int p1), .val (.int p2), .val (.int p3), .unset, .unset, .unset, .unset, .unset, .unset, .unset] [(.int p1)])) rfl (hb hby at_1)) ?_
  show Go p e below _ (s₁.setTop (mkF m 3 #[.val (.int p1), .val (.int p2), .val (.int p3), .unset, .unset, .unset, .unset, .unset, .unset, .unset] [(.int (2147483647 : Int32)), (.int p1)]))
  refine Go.step (fun t k => XS.iand X0.here hx rfl (hb hby at_3) rfl k) ?_
  show Go p e below _ (s₁.setTop (mkF m 4 #[.val (.int p1), .val (.int p2), .val (.int p3), .unset, .unset, .unset, .unset, .unset, .unset, .unset] [(.int (p1 &&& (2147483647 : Int32)))]))
  refine Go.step (fun t k => XS.bipush X0.here hx rfl (hb hby at_4)  k) ?_
  show Go p e below _ (s₁.setTop (mkF m 6 #[.val (.int p1), .val (.int p2), .val (.int p3), .unset, .unset, .unset, .unset, .unset, .unset, .unset] [(.int (24 : Int32)), (.int (p1 &&& (2147483647 : Int32)))]))
  refine Go.step (fun t (k : Steps p.tables e below (s₁.setTop (mkF m 7 #[.val (.int p1), .val (.int p2), .val (.int p3), .unset, .unset, .unset, .unset, .unset, .unset, .unset] [(.int ((p1 &&& (2147483647 : Int32)) % (24 : Int32)))])) t) => XS.irem X0.here hx rfl (hb hby at_6) rfl (by decide) (by rw [remI]; exact k)) ?_
  show Go p e below _ (s₁.setTop (mkF m 7 #[.val (.int p1), .val (.int p2), .val (.int p3), .unset, .unset, .unset, .unset, .unset, .unset, .unset] [(.int ((p1 &&& (2147483647 : Int32)) % (24 : Int32)))]))
  obtain ⟨v4, hv4⟩ : ∃ z : Int32, z = ((p1 &&& (2147483647 : Int32)) % (24 : Int32)) := ⟨_, rfl⟩
  rw [← hv4]
  show Go p e below _ (s₁.setTop (mkF m 7 #[.val (.int p1), .val (.int p2), .val (.int p3), .unset, .unset, .unset, .unset, .unset, .unset, .unset] [(.int v4)]))
  refine Go.step (fun t k => XS.istoreN X0.here hx rfl (hb hby at_7) rfl (l' := #[.val (.int p1), .val (.int p2), .val (.int p3), .val (.int v4), .unset, .unset, .unset, .unset, .unset, .unset]) rfl k) ?_
  show Go p e below _ (s₁.setTop (mkF m 8 #[.val (.int p1), .val (.int p2), .val (.int p3), .val (.int v4), .unset, .unset, .unset, .unset, .unset, .unset] []))
  refine Go.step (fun t k => XS.iloadN X0.here hx rfl (hb hby at_8) rfl k) ?_
  show Go p e below _ (s₁.setTop (mkF m 9 #[.val (.int p1), .val (.int p2), .val (.int p3), .val (.int v4), .unset, .unset, .unset, .unset, .unset, .unset] [(.int v4)]))
  refine Go.step (fun t k => XS.iconst X0.here hx rfl (hb hby at_9)  k) ?_
  show Go p e below _ (s₁.setTop (mkF m 10 #[.val (.int p1), .val (.int p2), .val (.int p3), .val (.int v4), .unset, .unset, .unset, .unset, .unset, .unset] [(.int (1 : Int32)), (.int v4)]))
  refine Go.step (fun t k => XS.iadd X0.here hx rfl (hb hby at_10) rfl k) ?_
  show Go p e below _ (s₁.setTop (mkF m 11 #[.val (.int p1), .val (.int p2), .val (.int p3), .val (.int v4), .unset, .unset, .unset, .unset, .unset, .unset] [(.int (v4 + (1 : Int32)))]))
  refine Go.step (fun t k => XS.iloadN X0.here hx rfl (hb hby at_11) rfl k) ?_
  show Go p e below _ (s₁.setTop (mkF m 12 #[.val (.int p1), .val (.int p2), .val (.int p3), .val (.int v4), .unset, .unset, .unset, .unset, .unset, .unset] [(.int p2), (.int (v4 + (1 : Int32)))]))
  refine Go.step (X0.ldcInt hx hown (mvT hZ (hw _ (List.mem_of_getElem? (i := 0) rfl))) (g := (mkF m 12 #[.val (.int p1), .val (.int p2), .val (.int p3), .val (.int v4), .unset, .unset, .unset, .unset, .unset, .unset] [(.int p2), (.int (v4 + (1 : Int32)))])) rfl (hb hby at_12)) ?_
  show Go p e below _ (s₁.setTop (mkF m 14 #[.val (.int p1), .val (.int p2), .val (.int p3), .val (.int v4), .unset, .unset, .unset, .unset, .unset, .unset] [(.int (2147483647 : Int32)), (.int p2), (.int (v4 + (1 : Int32)))]))
  refine Go.step (fun t k => XS.iand X0.here hx rfl (hb hby at_14) rfl k) ?_
  show Go p e below _ (s₁.setTop (mkF m 15 #[.val (.int p1), .val (.int p2), .val (.int p3), .val (.int v4), .unset, .unset, .unset, .unset, .unset, .unset] [(.int (p2 &&& (2147483647 : Int32))), (.int (v4 + (1 : Int32)))]))
  refine Go.step (fun t k => XS.bipush X0.here hx rfl (hb hby at_15)  k) ?_
  show Go p e below _ (s₁.setTop (mkF m 17 #[.val (.int p1), .val (.int p2), .val (.int p3), .val (.int v4), .unset, .unset, .unset, .unset, .unset, .unset] [(.int (23 : Int32)), (.int (p2 &&& (2147483647 : Int32))), (.int (v4 + (1 : Int32)))]))
  refine Go.step (fun t (k : Steps p.tables e below (s₁.setTop (mkF m 18 #[.val (.int p1), .val (.int p2), .val (.int p3), .val (.int v4), .unset, .unset, .unset, .unset, .unset, .unset] [(.int ((p2 &&& (2147483647 : Int32)) % (23 : Int32))), (.int (v4 + (1 : Int32)))])) t) => XS.irem X0.here hx rfl (hb hby at_17) rfl (by decide) (by rw [remI]; exact k)) ?_
  show Go p e below _ (s₁.setTop (mkF m 18 #[.val (.int p1), .val (.int p2), .val (.int p3), .val (.int v4), .unset, .unset, .unset, .unset, .unset, .unset] [(.int ((p2 &&& (2147483647 : Int32)) % (23 : Int32))), (.int (v4 + (1 : Int32)))]))
  refine Go.step (fun t k => XS.iadd X0.here hx rfl (hb hby at_18) rfl k) ?_
  show Go p e below _ (s₁.setTop (mkF m 19 #[.val (.int p1), .val (.int p2), .val (.int p3), .val (.int v4), .unset, .unset, .unset, .unset, .unset, .unset] [(.int ((v4 + (1 : Int32)) + ((p2 &&& (2147483647 : Int32)) % (23 : Int32))))]))
  refine Go.step (fun t k => XS.bipush X0.here hx rfl (hb hby at_19)  k) ?_
  show Go p e below _ (s₁.setTop (mkF m 21 #[.val (.int p1), .val (.int p2), .val (.int p3), .val (.int v4), .unset, .unset, .unset, .unset, .unset, .unset] [(.int (24 : Int32)), (.int ((v4 + (1 : Int32)) + ((p2 &&& (2147483647 : Int32)) % (23 : Int32))))]))
  refine Go.step (fun t (k : Steps p.tables e below (s₁.setTop (mkF m 22 #[.val (.int p1), .val (.int p2), .val (.int p3), .val (.int v4), .unset, .unset, .unset, .unset, .unset, .unset] [(.int (((v4 + (1 : Int32)) + ((p2 &&& (2147483647 : Int32)) % (23 : Int32))) % (24 : Int32)))])) t) => XS.irem X0.here hx rfl (hb hby at_21) rfl (by decide) (by rw [remI]; exact k)) ?_
  show Go p e below _ (s₁.setTop (mkF m 22 #[.val (.int p1), .val (.int p2), .val (.int p3), .val (.int v4), .unset, .unset, .unset, .unset, .unset, .unset] [(.int (((v4 + (1 : Int32)) + ((p2 &&& (2147483647 : Int32)) % (23 : Int32))) % (24 : Int32)))]))
  obtain ⟨v5, hv5⟩ : ∃ z : Int32, z = (((v4 + (1 : Int32)) + ((p2 &&& (2147483647 : Int32)) % (23 : Int32))) % (24 : Int32)) := ⟨_, rfl⟩
  rw [← hv5]
  show Go p e below _ (s₁.setTop (mkF m 22 #[.val (.int p1), .val (.int p2), .val (.int p3), .val (.int v4), .unset, .unset, .unset, .unset, .unset, .unset] [(.int v5)]))
  refine Go.step (fun t k => XS.istore X0.here hx rfl (hb hby at_22) rfl (l' := #[.val (.int p1), .val (.int p2), .val (.int p3), .val (.int v4), .val (.int v5), .unset, .unset, .unset, .unset, .unset]) rfl k) ?_
  show Go p e below _ (s₁.setTop (mkF m 24 #[.val (.int p1), .val (.int p2), .val (.int p3), .val (.int v4), .val (.int v5), .unset, .unset, .unset, .unset, .unset] []))
  refine Go.step (fun t k => XS.iloadN X0.here hx rfl (hb hby at_24) rfl k) ?_
  show Go p e below _ (s₁.setTop (mkF m 25 #[.val (.int p1), .val (.int p2), .val (.int p3), .val (.int v4), .val (.int v5), .unset, .unset, .unset, .unset, .unset] [(.int p3)]))
  refine Go.step (X0.ldcInt hx hown (mvT hZ (hw _ (List.mem_of_getElem? (i := 0) rfl))) (g := (mkF m 25 #[.val (.int p1), .val (.int p2), .val (.int p3), .val (.int v4), .val (.int v5), .unset, .unset, .unset, .unset, .unset] [(.int p3)])) rfl (hb hby at_25)) ?_
  show Go p e below _ (s₁.setTop (mkF m 27 #[.val (.int p1), .val (.int p2), .val (.int p3), .val (.int v4), .val (.int v5), .unset, .unset, .unset, .unset, .unset] [(.int (2147483647 : Int32)), (.int p3)]))
  refine Go.step (fun t k => XS.iand X0.here hx rfl (hb hby at_27) rfl k) ?_
  show Go p e below _ (s₁.setTop (mkF m 28 #[.val (.int p1), .val (.int p2), .val (.int p3), .val (.int v4), .val (.int v5), .unset, .unset, .unset, .unset, .unset] [(.int (p3 &&& (2147483647 : Int32)))]))
  refine Go.step (fun t k => XS.bipush X0.here hx rfl (hb hby at_28)  k) ?_
  show Go p e below _ (s₁.setTop (mkF m 30 #[.val (.int p1), .val (.int p2), .val (.int p3), .val (.int v4), .val (.int v5), .unset, .unset, .unset, .unset, .unset] [(.int (24 : Int32)), (.int (p3 &&& (2147483647 : Int32)))]))
  refine Go.step (fun t (k : Steps p.tables e below (s₁.setTop (mkF m 31 #[.val (.int p1), .val (.int p2), .val (.int p3), .val (.int v4), .val (.int v5), .unset, .unset, .unset, .unset, .unset] [(.int ((p3 &&& (2147483647 : Int32)) % (24 : Int32)))])) t) => XS.irem X0.here hx rfl (hb hby at_30) rfl (by decide) (by rw [remI]; exact k)) ?_
  show Go p e below _ (s₁.setTop (mkF m 31 #[.val (.int p1), .val (.int p2), .val (.int p3), .val (.int v4), .val (.int v5), .unset, .unset, .unset, .unset, .unset] [(.int ((p3 &&& (2147483647 : Int32)) % (24 : Int32)))]))
  obtain ⟨v6, hv6⟩ : ∃ z : Int32, z = ((p3 &&& (2147483647 : Int32)) % (24 : Int32)) := ⟨_, rfl⟩
  rw [← hv6]
  show Go p e below _ (s₁.setTop (mkF m 31 #[.val (.int p1), .val (.int p2), .val (.int p3), .val (.int v4), .val (.int v5), .unset, .unset, .unset, .unset, .unset] [(.int v6)]))
  refine Go.step (fun t k => XS.istore X0.here hx rfl (hb hby at_31) rfl (l' := #[.val (.int p1), .val (.int p2), .val (.int p3), .val (.int v4), .val (.int v5), .val (.int v6), .unset, .unset, .unset, .unset]) rfl k) ?_
  show Go p e below _ (s₁.setTop (mkF m 33 #[.val (.int p1), .val (.int p2), .val (.int p3), .val (.int v4), .val (.int v5), .val (.int v6), .unset, .unset, .unset, .unset] []))
  obtain ⟨T7, h7, X7, e7, E7, A7, D7, -, st7⟩ := newO X0 hx hZ hown (hw _ (List.mem_of_getElem? (i := 1) rfl)) (hw _ (List.mem_of_getElem? (i := 2) rfl)) (hw _ (List.mem_of_getElem? (i := 3) rfl)) e0 (g := (mkF m 33 #[.val (.int p1), .val (.int p2), .val (.int p3), .val (.int v4), .val (.int v5), .val (.int v6), .unset, .unset, .unset, .unset] [])) rfl (hb hby at_33) (by decide) (by decide)
  obtain ⟨b7, g7⟩ : ∃ z, z = h0.size := ⟨_, rfl⟩
  rw [← g7] at A7 D7 st7
  have g_b7 : n0 ≤ b7 := Nat.le_trans Z0 (Nat.le_of_eq g7.symm)
  have sz_b7 : h0.size ≤ b7 := Nat.le_trans KK0.1 (Nat.le_of_eq g7.symm)
  refine Go.step st7 ?_
  have Z7 := Nat.le_trans Z0 E7.1
  have KK7 : Keep h0 h7 [] := KK0.ext E7
  have F_from_b7 : Fld Z h7 b7 "com/example/biller/biller/components/ClockSpan" "from" "I" (.int (0 : Int32)) := D7 (Or.inr (hw _ (List.mem_of_getElem? (i := 11) rfl))) (ty := .int) (by decide)
  have F_to_b7 : Fld Z h7 b7 "com/example/biller/biller/components/ClockSpan" "to" "I" (.int (0 : Int32)) := D7 (Or.inr (hw _ (List.mem_of_getElem? (i := 13) rfl))) (ty := .int) (by decide)
  show Go p e below _ (T7.setTop (mkF m 36 #[.val (.int p1), .val (.int p2), .val (.int p3), .val (.int v4), .val (.int v5), .val (.int v6), .unset, .unset, .unset, .unset] [(.ref b7)]))
  refine Go.step (fun t k => XS.dup X7.here hx rfl (hb hby at_36) rfl rfl k) ?_
  show Go p e below _ (T7.setTop (mkF m 37 #[.val (.int p1), .val (.int p2), .val (.int p3), .val (.int v4), .val (.int v5), .val (.int v6), .unset, .unset, .unset, .unset] [(.ref b7), (.ref b7)]))
  refine Go.step (fun t k => XS.iloadN X7.here hx rfl (hb hby at_37) rfl k) ?_
  show Go p e below _ (T7.setTop (mkF m 38 #[.val (.int p1), .val (.int p2), .val (.int p3), .val (.int v4), .val (.int v5), .val (.int v6), .unset, .unset, .unset, .unset] [(.int v4), (.ref b7), (.ref b7)]))
  refine Go.step (fun t k => XS.iload X7.here hx rfl (hb hby at_38) rfl k) ?_
  show Go p e below _ (T7.setTop (mkF m 40 #[.val (.int p1), .val (.int p2), .val (.int p3), .val (.int v4), .val (.int v5), .val (.int v6), .unset, .unset, .unset, .unset] [(.int v5), (.int v4), (.ref b7), (.ref b7)]))
  obtain ⟨_, _, ⟨T8, L8, k8, n8⟩, -, X8, ⟨Lc8, hQ8, l8, y8, z8⟩, st8⟩ := X7.specialBack hx (y := (⟨"com/example/biller/biller/components/ClockSpan", "<init>", "(II)V"⟩ : MethodName)) rfl hown (mvT hZ (hw _ (List.mem_of_getElem? (i := 4) rfl))) (mvT hZ (hw _ (List.mem_of_getElem? (i := 5) rfl))) (mvT hZ (hw _ (List.mem_of_getElem? (i := 6) rfl))) (by decide) (backOf (W := 1) (rm1 l Z a0 hw [] b7 v4 v5 (0 : Int32) (0 : Int32) h7 n0 Z7 F_to_b7 (by simpa only [hv4, hv5, hv6] using hp40_hp5) (by simpa only [hv4, hv5, hv6] using hp40_hp11) (by simpa only [hv4, hv5, hv6] using hp40_hp15) (by simpa only [hv4, hv5, hv6] using hp40_hp21) (by simpa only [hv4, hv5, hv6] using hp40_hp41) A7 F_from_b7 g_b7) hZ (hw _ (List.mem_of_getElem? (i := 6) rfl)) (hw _ (List.mem_of_getElem? (i := 3) rfl)) (by decide) (by decide)) (g := (mkF m 40 #[.val (.int p1), .val (.int p2), .val (.int p3), .val (.int v4), .val (.int v5), .val (.int v6), .unset, .unset, .unset, .unset] [(.int v5), (.int v4), (.ref b7), (.ref b7)])) rfl (by rw [hml]; rfl) (Steps.refl _) (a := b7) (argsL := [(.int v4), (.int v5)]) (rest := [(.ref b7)]) (lenOf pd_0 rfl) rfl (by show 2 * 0 + _ ≤ _; exact Nat.le_of_eq rfl) (hb hby at_40) (fun _ _ => ⟨rfl, e7, (by decide : 1 + 0 ≤ _), (by decide : 2 + 0 ≤ _)⟩)
  dsimp only [Pt.U, Pt.locs, Pt.cells, Pt.slots] at X8 l8 y8 z8 st8 hQ8
  subst l8 y8 z8
  obtain ⟨rfl, N8q, K8, Q8_0, Q8_1, Q8_2⟩ := hQ8
  have N8 := Fr.app N0 N8q
  have E_b7_8 := A7.keep K8
  have Z8 := Nat.le_trans Z7 K8.1
  have KK8 : Keep h0 T8.heap [] := KK7.trans K8 (allS (Or.inr sz_b7) all0)
  refine Go.trans st8 ?_
  show Go p e below _ (T8.setTop (mkF m 43 #[.val (.int p1), .val (.int p2), .val (.int p3), .val (.int v4), .val (.int v5), .val (.int v6), .unset, .unset, .unset, .unset] [(.ref b7)]))
  refine Go.step (fun t k => XS.astore X8.here hx rfl (hb hby at_43) rfl rfl (l' := #[.val (.int p1), .val (.int p2), .val (.int p3), .val (.int v4), .val (.int v5), .val (.int v6), .val (.ref b7), .unset, .unset, .unset]) rfl k) ?_
  show Go p e below _ (T8.setTop (mkF m 45 #[.val (.int p1), .val (.int p2), .val (.int p3), .val (.int v4), .val (.int v5), .val (.int v6), .val (.ref b7), .unset, .unset, .unset] []))
  refine Go.step (fun t k => XS.iload X8.here hx rfl (hb hby at_45) rfl k) ?_
  show Go p e below _ (T8.setTop (mkF m 47 #[.val (.int p1), .val (.int p2), .val (.int p3), .val (.int v4), .val (.int v5), .val (.int v6), .val (.ref b7), .unset, .unset, .unset] [(.int v6)]))
  refine Go.step (fun t k => XS.iloadN X8.here hx rfl (hb hby at_47) rfl k) ?_
  show Go p e below _ (T8.setTop (mkF m 48 #[.val (.int p1), .val (.int p2), .val (.int p3), .val (.int v4), .val (.int v5), .val (.int v6), .val (.ref b7), .unset, .unset, .unset] [(.int v4), (.int v6)]))
  refine Go.step (fun t k => XS.isub X8.here hx rfl (hb hby at_48) rfl k) ?_
  show Go p e below _ (T8.setTop (mkF m 49 #[.val (.int p1), .val (.int p2), .val (.int p3), .val (.int v4), .val (.int v5), .val (.int v6), .val (.ref b7), .unset, .unset, .unset] [(.int (v6 - v4))]))
  refine Go.step (fun t k => XS.bipush X8.here hx rfl (hb hby at_49)  k) ?_
  show Go p e below _ (T8.setTop (mkF m 51 #[.val (.int p1), .val (.int p2), .val (.int p3), .val (.int v4), .val (.int v5), .val (.int v6), .val (.ref b7), .unset, .unset, .unset] [(.int (24 : Int32)), (.int (v6 - v4))]))
  refine Go.step (fun t k => XS.iadd X8.here hx rfl (hb hby at_51) rfl k) ?_
  show Go p e below _ (T8.setTop (mkF m 52 #[.val (.int p1), .val (.int p2), .val (.int p3), .val (.int v4), .val (.int v5), .val (.int v6), .val (.ref b7), .unset, .unset, .unset] [(.int ((v6 - v4) + (24 : Int32)))]))
  refine Go.step (fun t k => XS.bipush X8.here hx rfl (hb hby at_52)  k) ?_
  show Go p e below _ (T8.setTop (mkF m 54 #[.val (.int p1), .val (.int p2), .val (.int p3), .val (.int v4), .val (.int v5), .val (.int v6), .val (.ref b7), .unset, .unset, .unset] [(.int (24 : Int32)), (.int ((v6 - v4) + (24 : Int32)))]))
  refine Go.step (fun t (k : Steps p.tables e below (T8.setTop (mkF m 55 #[.val (.int p1), .val (.int p2), .val (.int p3), .val (.int v4), .val (.int v5), .val (.int v6), .val (.ref b7), .unset, .unset, .unset] [(.int (((v6 - v4) + (24 : Int32)) % (24 : Int32)))])) t) => XS.irem X8.here hx rfl (hb hby at_54) rfl (by decide) (by rw [remI]; exact k)) ?_
  show Go p e below _ (T8.setTop (mkF m 55 #[.val (.int p1), .val (.int p2), .val (.int p3), .val (.int v4), .val (.int v5), .val (.int v6), .val (.ref b7), .unset, .unset, .unset] [(.int (((v6 - v4) + (24 : Int32)) % (24 : Int32)))]))
  obtain ⟨v9, hv9⟩ : ∃ z : Int32, z = (((v6 - v4) + (24 : Int32)) % (24 : Int32)) := ⟨_, rfl⟩
  rw [← hv9]
  show Go p e below _ (T8.setTop (mkF m 55 #[.val (.int p1), .val (.int p2), .val (.int p3), .val (.int v4), .val (.int v5), .val (.int v6), .val (.ref b7), .unset, .unset, .unset] [(.int v9)]))
  refine Go.step (fun t k => XS.istore X8.here hx rfl (hb hby at_55) rfl (l' := #[.val (.int p1), .val (.int p2), .val (.int p3), .val (.int v4), .val (.int v5), .val (.int v6), .val (.ref b7), .val (.int v9), .unset, .unset]) rfl k) ?_
  show Go p e below _ (T8.setTop (mkF m 57 #[.val (.int p1), .val (.int p2), .val (.int p3), .val (.int v4), .val (.int v5), .val (.int v6), .val (.ref b7), .val (.int v9), .unset, .unset] []))
  refine Go.step (fun t k => XS.iload X8.here hx rfl (hb hby at_57) rfl k) ?_
  show Go p e below _ (T8.setTop (mkF m 59 #[.val (.int p1), .val (.int p2), .val (.int p3), .val (.int v4), .val (.int v5), .val (.int v6), .val (.ref b7), .val (.int v9), .unset, .unset] [(.int v5)]))
  refine Go.step (fun t k => XS.iloadN X8.here hx rfl (hb hby at_59) rfl k) ?_
  show Go p e below _ (T8.setTop (mkF m 60 #[.val (.int p1), .val (.int p2), .val (.int p3), .val (.int v4), .val (.int v5), .val (.int v6), .val (.ref b7), .val (.int v9), .unset, .unset] [(.int v4), (.int v5)]))
  refine Go.step (fun t k => XS.isub X8.here hx rfl (hb hby at_60) rfl k) ?_
  show Go p e below _ (T8.setTop (mkF m 61 #[.val (.int p1), .val (.int p2), .val (.int p3), .val (.int v4), .val (.int v5), .val (.int v6), .val (.ref b7), .val (.int v9), .unset, .unset] [(.int (v5 - v4))]))
  refine Go.step (fun t k => XS.bipush X8.here hx rfl (hb hby at_61)  k) ?_
  show Go p e below _ (T8.setTop (mkF m 63 #[.val (.int p1), .val (.int p2), .val (.int p3), .val (.int v4), .val (.int v5), .val (.int v6), .val (.ref b7), .val (.int v9), .unset, .unset] [(.int (24 : Int32)), (.int (v5 - v4))]))
  refine Go.step (fun t k => XS.iadd X8.here hx rfl (hb hby at_63) rfl k) ?_
  show Go p e below _ (T8.setTop (mkF m 64 #[.val (.int p1), .val (.int p2), .val (.int p3), .val (.int v4), .val (.int v5), .val (.int v6), .val (.ref b7), .val (.int v9), .unset, .unset] [(.int ((v5 - v4) + (24 : Int32)))]))
  refine Go.step (fun t k => XS.bipush X8.here hx rfl (hb hby at_64)  k) ?_
  show Go p e below _ (T8.setTop (mkF m 66 #[.val (.int p1), .val (.int p2), .val (.int p3), .val (.int v4), .val (.int v5), .val (.int v6), .val (.ref b7), .val (.int v9), .unset, .unset] [(.int (24 : Int32)), (.int ((v5 - v4) + (24 : Int32)))]))
  refine Go.step (fun t (k : Steps p.tables e below (T8.setTop (mkF m 67 #[.val (.int p1), .val (.int p2), .val (.int p3), .val (.int v4), .val (.int v5), .val (.int v6), .val (.ref b7), .val (.int v9), .unset, .unset] [(.int (((v5 - v4) + (24 : Int32)) % (24 : Int32)))])) t) => XS.irem X8.here hx rfl (hb hby at_66) rfl (by decide) (by rw [remI]; exact k)) ?_
  show Go p e below _ (T8.setTop (mkF m 67 #[.val (.int p1), .val (.int p2), .val (.int p3), .val (.int v4), .val (.int v5), .val (.int v6), .val (.ref b7), .val (.int v9), .unset, .unset] [(.int (((v5 - v4) + (24 : Int32)) % (24 : Int32)))]))
  obtain ⟨v10, hv10⟩ : ∃ z : Int32, z = (((v5 - v4) + (24 : Int32)) % (24 : Int32)) := ⟨_, rfl⟩
  rw [← hv10]
  show Go p e below _ (T8.setTop (mkF m 67 #[.val (.int p1), .val (.int p2), .val (.int p3), .val (.int v4), .val (.int v5), .val (.int v6), .val (.ref b7), .val (.int v9), .unset, .unset] [(.int v10)]))
  refine Go.step (fun t k => XS.istore X8.here hx rfl (hb hby at_67) rfl (l' := #[.val (.int p1), .val (.int p2), .val (.int p3), .val (.int v4), .val (.int v5), .val (.int v6), .val (.ref b7), .val (.int v9), .val (.int v10), .unset]) rfl k) ?_
  show Go p e below _ (T8.setTop (mkF m 69 #[.val (.int p1), .val (.int p2), .val (.int p3), .val (.int v4), .val (.int v5), .val (.int v6), .val (.ref b7), .val (.int v9), .val (.int v10), .unset] []))
  refine Go.step (fun t k => XS.iload X8.here hx rfl (hb hby at_69) rfl k) ?_
  show Go p e below _ (T8.setTop (mkF m 71 #[.val (.int p1), .val (.int p2), .val (.int p3), .val (.int v4), .val (.int v5), .val (.int v6), .val (.ref b7), .val (.int v9), .val (.int v10), .unset] [(.int v9)]))
  refine Go.step (fun t k => XS.iload X8.here hx rfl (hb hby at_71) rfl k) ?_
  show Go p e below _ (T8.setTop (mkF m 73 #[.val (.int p1), .val (.int p2), .val (.int p3), .val (.int v4), .val (.int v5), .val (.int v6), .val (.ref b7), .val (.int v9), .val (.int v10), .unset] [(.int v10), (.int v9)]))
  obtain ⟨v12, hv12⟩ : ∃ z : Int32, z = (if v9 < v10 then (1 : Int32) else (0 : Int32)) := ⟨_, rfl⟩
  have J73 : Go p e below (AtF p l e room_1 s m #[(.int p1), (.int p2), (.int p3)] below meth c n0 1 2 T8.heap (mkF m 81 #[.val (.int p1), .val (.int p2), .val (.int p3), .val (.int v4), .val (.int v5), .val (.int v6), .val (.ref b7), .val (.int v9), .val (.int v10), .unset] [(.int v12)])) (T8.setTop (mkF m 73 #[.val (.int p1), .val (.int p2), .val (.int p3), .val (.int v4), .val (.int v5), .val (.int v6), .val (.ref b7), .val (.int v9), .val (.int v10), .unset] [(.int v10), (.int v9)])) := by
    by_cases hc11 : v9 < v10
    · refine Go.step (fun t k => XS.icmpNo X8.here hx rfl (hb hby at_73) rfl (tlt hc11).2.1 k) ?_
      show Go p e below _ (T8.setTop (mkF m 76 #[.val (.int p1), .val (.int p2), .val (.int p3), .val (.int v4), .val (.int v5), .val (.int v6), .val (.ref b7), .val (.int v9), .val (.int v10), .unset] []))
      refine Go.step (fun t k => XS.iconst X8.here hx rfl (hb hby at_76)  k) ?_
      show Go p e below _ (T8.setTop (mkF m 77 #[.val (.int p1), .val (.int p2), .val (.int p3), .val (.int v4), .val (.int v5), .val (.int v6), .val (.ref b7), .val (.int v9), .val (.int v10), .unset] [(.int (1 : Int32))]))
      refine Go.step (fun t k => XS.goto X8.here hx rfl (pc0 := 77) (pc' := 81) rfl (hb hby at_77) (by decide) (by decide) k) ?_
      show Go p e below _ (T8.setTop (mkF m 81 #[.val (.int p1), .val (.int p2), .val (.int p3), .val (.int v4), .val (.int v5), .val (.int v6), .val (.ref b7), .val (.int v9), .val (.int v10), .unset] [(.int (1 : Int32))]))
      exact Go.here ⟨_, _, by simp only [hv12, if_pos hc11], X8, N8, rfl⟩
    · refine Go.step (fun t k => XS.icmpYes X8.here hx rfl (pc0 := 73) (pc' := 80) rfl (hb hby at_73) rfl (flt hc11).2.1 (by decide) (by decide) k) ?_
      show Go p e below _ (T8.setTop (mkF m 80 #[.val (.int p1), .val (.int p2), .val (.int p3), .val (.int v4), .val (.int v5), .val (.int v6), .val (.ref b7), .val (.int v9), .val (.int v10), .unset] []))
      refine Go.step (fun t k => XS.iconst X8.here hx rfl (hb hby at_80)  k) ?_
      show Go p e below _ (T8.setTop (mkF m 81 #[.val (.int p1), .val (.int p2), .val (.int p3), .val (.int v4), .val (.int v5), .val (.int v6), .val (.ref b7), .val (.int v9), .val (.int v10), .unset] [(.int (0 : Int32))]))
      exact Go.here ⟨_, _, by simp only [hv12, if_neg hc11], X8, N8, rfl⟩
  obtain ⟨_, st13, T13, Lj13, rfl, X13, N13, e13⟩ := J73
  refine Go.trans st13 ?_
  show Go p e below _ (T13.setTop (mkF m 81 #[.val (.int p1), .val (.int p2), .val (.int p3), .val (.int v4), .val (.int v5), .val (.int v6), .val (.ref b7), .val (.int v9), .val (.int v10), .unset] [(.int v12)]))
  refine Go.step (fun t k => XS.istore X13.here hx rfl (hb hby at_81) rfl (l' := #[.val (.int p1), .val (.int p2), .val (.int p3), .val (.int v4), .val (.int v5), .val (.int v6), .val (.ref b7), .val (.int v9), .val (.int v10), .val (.int v12)]) rfl k) ?_
  show Go p e below _ (T13.setTop (mkF m 83 #[.val (.int p1), .val (.int p2), .val (.int p3), .val (.int v4), .val (.int v5), .val (.int v6), .val (.ref b7), .val (.int v9), .val (.int v10), .val (.int v12)] []))
  refine Go.step (fun t k => XS.aload X13.here hx rfl (hb hby at_83) rfl rfl k) ?_
  show Go p e below _ (T13.setTop (mkF m 85 #[.val (.int p1), .val (.int p2), .val (.int p3), .val (.int v4), .val (.int v5), .val (.int v6), .val (.ref b7), .val (.int v9), .val (.int v10), .val (.int v12)] [(.ref b7)]))
  refine Go.step (fun t k => XS.iload X13.here hx rfl (hb hby at_85) rfl k) ?_
  show Go p e below _ (T13.setTop (mkF m 87 #[.val (.int p1), .val (.int p2), .val (.int p3), .val (.int v4), .val (.int v5), .val (.int v6), .val (.ref b7), .val (.int v9), .val (.int v10), .val (.int v12)] [(.int v6), (.ref b7)]))
  obtain ⟨cq14, kq14, q14a, q14b, q14c⟩ := isOf hZ e13 Q8_1
  obtain ⟨_, _, ⟨T14, L14, k14, n14⟩, -, X14, ⟨Lc14, hQ14, l14, y14, z14⟩, st14⟩ := X13.virtualBack hx (y := (⟨"com/example/biller/biller/components/ClockSpan", "holds", "(I)Z"⟩ : MethodName)) (z := (⟨"com/example/biller/biller/components/ClockSpan", "holds", "(I)Z"⟩ : MethodName)) hown (mvT hZ (hw _ (List.mem_of_getElem? (i := 14) rfl))) (mvT hZ (hw _ (List.mem_of_getElem? (i := 15) rfl))) (notFace_of_selects (args := #[]) (mvT hZ (hw _ (List.mem_of_getElem? (i := 17) rfl)))) (mvT hZ (hw _ (List.mem_of_getElem? (i := 17) rfl))) (mvT hZ (hw _ (List.mem_of_getElem? (i := 16) rfl))) (by decide) (backOf (W := 0) (rm3 l Z a0 hw [] b7 v6 v4 v5 T8.heap n0 Z8 Q8_2 Q8_0) hZ (hw _ (List.mem_of_getElem? (i := 18) rfl)) (hw _ (List.mem_of_getElem? (i := 3) rfl)) (by decide) (by decide)) q14a q14c (g := (mkF m 87 #[.val (.int p1), .val (.int p2), .val (.int p3), .val (.int v4), .val (.int v5), .val (.int v6), .val (.ref b7), .val (.int v9), .val (.int v10), .val (.int v12)] [(.int v6), (.ref b7)])) rfl (by rw [hml]; rfl) (Steps.refl _) (argsL := [(.int v6)]) (rest := []) (lenOf pd_1 rfl) rfl (by show 2 * 0 + _ ≤ _; exact Nat.le_of_eq rfl) (hb hby at_87) (fun _ _ => ⟨rfl, e13, (by decide : 1 + 0 ≤ _), (by decide : 2 + 0 ≤ _)⟩)
  dsimp only [Pt.U, Pt.locs, Pt.cells, Pt.slots] at X14 l14 y14 z14 st14 hQ14
  subst l14 y14 z14
  obtain ⟨rfl, N14q, e14⟩ := hQ14
  have N14 := Fr.app N13 N14q
  refine Go.trans st14 ?_
  show Go p e below _ (T14.setTop (mkF m 90 #[.val (.int p1), .val (.int p2), .val (.int p3), .val (.int v4), .val (.int v5), .val (.int v6), .val (.ref b7), .val (.int v9), .val (.int v10), .val (.int v12)] [(.int (f3 v6 v4 v5))]))
  refine Go.step (fun t k => XS.iload X14.here hx rfl (hb hby at_90) rfl k) ?_
  show Go p e below _ (T14.setTop (mkF m 92 #[.val (.int p1), .val (.int p2), .val (.int p3), .val (.int v4), .val (.int v5), .val (.int v6), .val (.ref b7), .val (.int v9), .val (.int v10), .val (.int v12)] [(.int v12), (.int (f3 v6 v4 v5))]))
  by_cases hc15 : (f3 v6 v4 v5) = v12
  · refine Go.step (fun t k => XS.icmpNo X14.here hx rfl (hb hby at_92) rfl (teq hc15).2 k) ?_
    show Go p e below _ (T14.setTop (mkF m 95 #[.val (.int p1), .val (.int p2), .val (.int p3), .val (.int v4), .val (.int v5), .val (.int v6), .val (.ref b7), .val (.int v9), .val (.int v10), .val (.int v12)] []))
    refine Go.step (fun t k => XS.iconst X14.here hx rfl (hb hby at_95)  k) ?_
    show Go p e below _ (T14.setTop (mkF m 96 #[.val (.int p1), .val (.int p2), .val (.int p3), .val (.int v4), .val (.int v5), .val (.int v6), .val (.ref b7), .val (.int v9), .val (.int v10), .val (.int v12)] [(.int (1 : Int32))]))
    refine Go.step (fun t k => XS.goto X14.here hx rfl (pc0 := 96) (pc' := 100) rfl (hb hby at_96) (by decide) (by decide) k) ?_
    show Go p e below _ (T14.setTop (mkF m 100 #[.val (.int p1), .val (.int p2), .val (.int p3), .val (.int v4), .val (.int v5), .val (.int v6), .val (.ref b7), .val (.int v9), .val (.int v10), .val (.int v12)] [(.int (1 : Int32))]))
    subst hv12
    subst hv10
    subst hv9
    subst hv6
    subst hv5
    subst hv4
    exact retGN X14 hx Bd.notSynchronized Bd.returns (t := .boolean) (by simp) (z' := (1 : Int32)) rfl (hb hby at_100) ⟨by first | (simp only [f0, if_pos hc15]; done) | rfl | (simp [f0, if_pos hc15]; done), N14⟩ (by decide) (by decide)
  · refine Go.step (fun t k => XS.icmpYes X14.here hx rfl (pc0 := 92) (pc' := 99) rfl (hb hby at_92) rfl (feq hc15).2 (by decide) (by decide) k) ?_
    show Go p e below _ (T14.setTop (mkF m 99 #[.val (.int p1), .val (.int p2), .val (.int p3), .val (.int v4), .val (.int v5), .val (.int v6), .val (.ref b7), .val (.int v9), .val (.int v10), .val (.int v12)] []))
    refine Go.step (fun t k => XS.iconst X14.here hx rfl (hb hby at_99)  k) ?_
    show Go p e below _ (T14.setTop (mkF m 100 #[.val (.int p1), .val (.int p2), .val (.int p3), .val (.int v4), .val (.int v5), .val (.int v6), .val (.ref b7), .val (.int v9), .val (.int v10), .val (.int v12)] [(.int (0 : Int32))]))
    subst hv12
    subst hv10
    subst hv9
    subst hv6
    subst hv5
    subst hv4
    exact retGN X14 hx Bd.notSynchronized Bd.returns (t := .boolean) (by simp) (z' := (0 : Int32)) rfl (hb hby at_100) ⟨by first | (simp only [f0, if_neg hc15]; done) | rfl | (simp [f0, if_neg hc15]; done), N14⟩ (by decide) (by decide)

theorem own_hr (a : Int32) : ((a &&& (2147483647 : Int32)) % (24 : Int32)).toInt = a.toInt % 2147483648 % 24 := by
  have h1 := c_mask a 2147483647 31 (by decide) (by decide)
  rw [modI 24 (by decide) (by omega), h1]; rfl
theorem own_hb (a : Int32) : ((a &&& (2147483647 : Int32)) % (23 : Int32)).toInt = a.toInt % 2147483648 % 23 := by
  have h1 := c_mask a 2147483647 31 (by decide) (by decide)
  rw [modI 23 (by decide) (by omega), h1]; rfl
theorem own_t (a b : Int32) : ((((((a &&& (2147483647 : Int32)) % (24 : Int32)) + (1 : Int32)) + ((b &&& (2147483647 : Int32)) % (23 : Int32))) % (24 : Int32))).toInt = (a.toInt % 2147483648 % 24 + 1 + b.toInt % 2147483648 % 23) % 24 := by
  have h1 := own_hr a
  have h2 := own_hb b
  generalize (a &&& (2147483647 : Int32)) % (24 : Int32) = x at *
  generalize (b &&& (2147483647 : Int32)) % (23 : Int32) = y at *
  have e1 : (1 : Int32).toInt = 1 := by decide
  have h3 : (x + 1).toInt = x.toInt + 1 := by rw [addI] <;> rw [e1] <;> omega
  have h4 : (x + 1 + y).toInt = x.toInt + 1 + y.toInt := by rw [addI] <;> rw [h3] <;> omega
  rw [modI 24 (by decide) (by omega), h4, h1, h2]
theorem own_d (x y : Int32) (hx : 0 ≤ x.toInt ∧ x.toInt < 24) (hy : 0 ≤ y.toInt ∧ y.toInt < 24) : (((x - y) + (24 : Int32)) % (24 : Int32)).toInt = (x.toInt - y.toInt + 24) % 24 := by
  have e1 : (24 : Int32).toInt = 24 := by decide
  have h3 : (x - y).toInt = x.toInt - y.toInt := by rw [subI] <;> omega
  have h4 : (x - y + 24).toInt = x.toInt - y.toInt + 24 := by rw [addI] <;> rw [h3, e1] <;> omega
  rw [modI 24 (by decide) (by omega), h4]
theorem law_true (a b c : Int32) : f0 a b c = 1 := by
  have h1 := own_hr a
  have h2 := own_hr c
  have h3 := own_t a b
  simp only [f0]
  generalize ((((a &&& (2147483647 : Int32)) % (24 : Int32)) + (1 : Int32)) + ((b &&& (2147483647 : Int32)) % (23 : Int32))) % (24 : Int32) = t at *
  generalize (a &&& (2147483647 : Int32)) % (24 : Int32) = f at *
  generalize (c &&& (2147483647 : Int32)) % (24 : Int32) = h at *
  have d1 := own_d h f (by omega) (by omega)
  have d2 := own_d t f (by omega) (by omega)
  rw [if_pos]
  simp only [f3, Int32.lt_iff_toInt_lt, d1, d2]
  (repeat' split) <;> first | rfl | (exfalso; omega)
theorem pr5 (a : Int32) : ¬ (((a &&& (2147483647 : Int32)) % (24 : Int32)) < (0 : Int32)) := by
  have h1 := own_hr a
  rw [Int32.lt_iff_toInt_lt]
  have e1 : (0 : Int32).toInt = 0 := by decide
  omega
theorem pr11 (a : Int32) : ((a &&& (2147483647 : Int32)) % (24 : Int32)) < (24 : Int32) := by
  have h1 := own_hr a
  rw [Int32.lt_iff_toInt_lt]
  have e1 : (24 : Int32).toInt = 24 := by decide
  omega
theorem pr15 (a b : Int32) : ¬ ((((((a &&& (2147483647 : Int32)) % (24 : Int32)) + (1 : Int32)) + ((b &&& (2147483647 : Int32)) % (23 : Int32))) % (24 : Int32)) < (0 : Int32)) := by
  have h1 := own_t a b
  rw [Int32.lt_iff_toInt_lt]
  have e1 : (0 : Int32).toInt = 0 := by decide
  omega
theorem pr21 (a b : Int32) : (((((a &&& (2147483647 : Int32)) % (24 : Int32)) + (1 : Int32)) + ((b &&& (2147483647 : Int32)) % (23 : Int32))) % (24 : Int32)) < (24 : Int32) := by
  have h1 := own_t a b
  rw [Int32.lt_iff_toInt_lt]
  have e1 : (24 : Int32).toInt = 24 := by decide
  omega
theorem pr41 (a b : Int32) : ¬ (((a &&& (2147483647 : Int32)) % (24 : Int32)) = (((((a &&& (2147483647 : Int32)) % (24 : Int32)) + (1 : Int32)) + ((b &&& (2147483647 : Int32)) % (23 : Int32))) % (24 : Int32))) := by
  have h1 := own_t a b
  have h2 := own_hr a
  intro h
  rw [← Int32.toInt_inj, h1, h2] at h
  omega

set_option maxRecDepth 65536 in
set_option maxHeartbeats 40000000 in
theorem comes_1 {Post : Tables → Env → Array Value → State → Outcome → State → Prop} (hpost : ∀ tb e args s v u, (limb_1_1.after args s (.returned v) u = true ∧ limb_1_2.after args s (.returned v) u = true ∧ True) → FrameEnd s (.returned v) u (Jvm.fieldLocs frame_1_writes args s ++ Jvm.arrayLocs frame_1_arrays args s ++ Jvm.staticLocs frame_1_statics s) 16 128 → Post tb e args s (.returned v) u) :
    ArmFor flags0 classFile x code maxLocals ret World_1 tables_1 room_1 Calls_1 rest_1 Pre_1 Post := by
  intro l hfl _ _ p e ha hc hk s m args below hf hA hF happ hP
  obtain ⟨hcalls, hrest, hpre⟩ := hP
  obtain ⟨-, -, -, hnamed, -, -, -, hat⟩ := (Spec.applies_iff hf).mp happ
  obtain ⟨hg, hn⟩ := and_e (Cond.before_iff.mp (show (Jvm.Cond.and given_1 narrow_1).before args s = true from hpre))
  obtain ⟨g0, hg⟩ := and_e hg
  obtain ⟨ga0, hg⟩ := and_e hg
  obtain ⟨ga1, hg⟩ := and_e hg
  have ga2 := hg
  obtain ⟨w0, w1, w2, rfl⟩ : ∃ w0 w1 w2 : Value, args = #[w0, w1, w2] := by
    have hs : args.size = 3 := by simpa [Cond.value, given_1] using g0
    obtain ⟨L⟩ := args
    match L, hs with
    | [w0, w1, w2], _ => exact ⟨w0, w1, w2, rfl⟩
  have hw := fun d (hd : d ∈ tables_1) => atoms_spec (ws := Jvm.Cond.code x code maxLocals ret :: tables_1) hat d (List.mem_cons_of_mem _ hd)
  have hfit : Fit s := fun {y c} hc i hi => by
    obtain ⟨ha, rfl⟩ := Array.getElem?_eq_some_iff.mp hc
    have q := List.all_eq_true.mp ((Array.all_eq_true_iff_forall_mem.mp hF) _ (Array.getElem_mem ha)) i (List.mem_range.mpr hi)
    simpa [Array.getElem?_eq_getElem hi] using q
  obtain ⟨i0, ei0⟩ := is_v ga0
  obtain rfl : w0 = (.int i0) := Option.some.inj ei0
  obtain ⟨i1, ei1⟩ := is_v ga1
  obtain rfl : w1 = (.int i1) := Option.some.inj ei1
  obtain ⟨i2, ei2⟩ := is_v ga2
  obtain rfl : w2 = (.int i2) := Option.some.inj ei2
  obtain ⟨n, o, h1, h2, h3, v, L, rfl, hQ, hq⟩ := rm0 l s _ hw tables_1 i0 i1 i2  s.heap s.heap.size (Nat.le_refl _) (pr5 i0) (pr11 i0) (pr15 i0 i1) (pr21 i0 i1) (pr41 i0 i1) p e ha hc hk s m _ below hf ((Spec.applies_iff_loose hf).mp happ).1 ⟨rfl, State.Warmed39.refl s, rfl⟩ trivial
  obtain ⟨hv, N⟩ := hQ
  rw [law_true i0 i1 i2] at hv
  subst hv
  refine ⟨n, _, h1, h2, h3, hpost _ _ _ _ _ _ ⟨Cond.after_iff.mpr rfl, Cond.after_iff.mpr (eq_i res_at (Term.int_eval (1)) rfl), trivial⟩ ⟨hq.1, hq.2.1, (hq.2.2.sift fun y hy => Or.inr (N y hy)).mono (by decide) (by decide)⟩⟩
theorem main_1_1 : Claimed_1_1 := comes_1 fun _ _ _ _ _ _ h hF => ⟨h.1, hF⟩
theorem main_1_2 : Claimed_1_2 := comes_1 fun _ _ _ _ _ _ h hF => ⟨h.2.1, hF⟩
end Jvm.Pilot.@@N@@
namespace Jvm.Pilot.@@N@@
open Jvm Jvm.ClassFile Sem Op Lib Jvm.Free Jvm.Stand Jvm.Pilot.@@N@@.Jvm.D
/-! MADE BY PROGRAM (witnessworld.py) out of the Statement's table words and the real class files: 9 classes; the members and pool entries that the words name. The judged class is class 1, her method 1. -/
namespace start1
open Jvm.ClassFile
def u (s : String) : CpInfo := .utf8 (stringToUtf16 s)
/-- a pool by its gaps: so many unusable entries, then the entry; so many at the end -/
def gap : Nat → List CpInfo → List CpInfo
  | 0, r => r
  | n + 1, r => .unusable :: gap n r
def poolList (es : List (Nat × CpInfo)) (last : Nat) : List CpInfo := es.foldr (fun e r => gap e.1 (e.2 :: r)) (gap last [])
def pool (es : List (Nat × CpInfo)) (last : Nat) : Array CpInfo := ⟨poolList es last⟩
def fileOf (pool : Array CpInfo) (this : Nat) (attrs : Array Attribute := #[]) (ms : Array MethodInfo := #[]) (fl : Nat := 33) (sup : Nat := 0) (ifs : Array Nat := #[]) (fds : Array FieldInfo := #[]) : ClassFile where
  minorVersion := 0
  majorVersion := 65
  constantPool := pool
  accessFlags := fl
  thisClass := this
  superClass := sup
  interfaces := ifs
  fields := fds
  methods := ms
  attributes := attrs
def plain (name : String) (sup : Option ClassId) : Class where
  name := name
  kind := .ordinary
  loader := none
  accessFlags := 33
  super := sup
  interfaces := #[]
  cf := none
  fields := #[]
  methods := #[]
  instanceTypes := #[]
  staticTypes := #[]
  resolved := #[]
  callSites := []
  init := .initialized
  statics := none
  mirror := none

def pool0 : Array CpInfo := pool [(5, u "<init>"), (0, u "()V"), (1, .class_ 10), (1, u "java/lang/Object")] 113

def k0c0 : Code := { maxStack := 0, maxLocals := 1, code := object_method_1_code, exceptionTable := #[], attributes := #[] }
def k0m0 : Method := { name := "<init>", desc := "()V", sig := { parameters := [], returnType := none }, accessFlags := 1, code := some k0c0 }
/-- java/lang/Object -/
def k0 : Class := { plain "java/lang/Object" none with
  accessFlags := 33
  interfaces := #[]
  cf := some (fileOf pool0 8 #[] #[{ accessFlags := 1, nameIndex := 5, descriptorIndex := 6, attributes := #[] }] 33 0 #[] #[])
  fields := #[]
  methods := #[k0m0]
  instanceTypes := #[]
  staticTypes := #[]
  resolved := Array.replicate 124 none
  statics := none }

def pool1 : Array CpInfo := pool [(2, .class_ 4), (1, u "java/lang/Object"), (0, u "<init>"), (0, u "()V"), (0, .integer 2147483647), (0, .class_ 9), (0, u "com/example/biller/biller/components/ClockSpan"), (0, .methodref 8 11), (0, .nameAndType 5 12), (0, u "(II)V"), (0, .methodref 8 14), (0, .nameAndType 15 16), (0, u "holds"), (0, u "(I)Z"), (0, .class_ 18), (0, u "com/example/biller/biller/components/ClockSpanHoldsPinLaw"), (2, u "law"), (0, u "(III)Z")] 3

def k1m0 : Method := { name := "<init>", desc := "()V", sig := { parameters := [], returnType := none }, accessFlags := 1, code := none }
def k1c1 : Code := { maxStack := 4, maxLocals := 10, code := code, exceptionTable := #[], attributes := #[] }
def k1m1 : Method := { name := "law", desc := "(III)Z", sig := { parameters := [.int, .int, .int], returnType := some .boolean }, accessFlags := 9, code := some k1c1 }
/-- com/example/biller/biller/components/ClockSpanHoldsPinLaw -/
def k1 : Class := { plain "com/example/biller/biller/components/ClockSpanHoldsPinLaw" (some 0) with
  accessFlags := 49
  interfaces := #[]
  cf := some (fileOf pool1 17 #[] #[{ accessFlags := 1, nameIndex := 5, descriptorIndex := 6, attributes := #[] }, { accessFlags := 9, nameIndex := 21, descriptorIndex := 22, attributes := #[] }] 49 2 #[] #[])
  fields := #[]
  methods := #[k1m0, k1m1]
  instanceTypes := #[]
  staticTypes := #[]
  resolved := Array.replicate 26 none
  statics := none }

def pool2 : Array CpInfo := pool [(1, .methodref 2 3), (0, .class_ 4), (0, .nameAndType 5 6), (0, u "java/lang/Object"), (0, u "<init>"), (0, u "()V"), (0, .class_ 8), (0, u "com/example/biller/biller/components/ClockSpan"), (10, .fieldref 7 20), (0, .nameAndType 21 22), (0, u "from"), (0, u "I"), (0, .fieldref 7 24), (0, .nameAndType 25 22), (0, u "to"), (0, u "HOURS_A_DAY"), (2, u "(II)V"), (4, u "holds"), (0, u "(I)Z")] 19

def k2c0 : Code := { maxStack := 4, maxLocals := 3, code := prog_55_method_1_code, exceptionTable := #[], attributes := #[] }
def k2m0 : Method := { name := "<init>", desc := "(II)V", sig := { parameters := [.int, .int], returnType := none }, accessFlags := 1, code := some k2c0 }
def k2c1 : Code := { maxStack := 2, maxLocals := 2, code := prog_55_method_4_code, exceptionTable := #[], attributes := #[] }
def k2m1 : Method := { name := "holds", desc := "(I)Z", sig := { parameters := [.int], returnType := some .boolean }, accessFlags := 0, code := some k2c1 }
/-- com/example/biller/biller/components/ClockSpan -/
def k2 : Class := { plain "com/example/biller/biller/components/ClockSpan" (some 0) with
  accessFlags := 49
  interfaces := #[]
  cf := some (fileOf pool2 7 #[] #[{ accessFlags := 1, nameIndex := 5, descriptorIndex := 29, attributes := #[] }, { accessFlags := 0, nameIndex := 34, descriptorIndex := 35, attributes := #[] }] 49 2 #[] #[{ accessFlags := 26, nameIndex := 26, descriptorIndex := 22, attributes := #[] }, { accessFlags := 18, nameIndex := 21, descriptorIndex := 22, attributes := #[] }, { accessFlags := 18, nameIndex := 25, descriptorIndex := 22, attributes := #[] }])
  fields := #[{ name := "HOURS_A_DAY", type := .int, accessFlags := 26, slot := 0, constantValue := 0 }, { name := "from", type := .int, accessFlags := 18, slot := 0, constantValue := 0 }, { name := "to", type := .int, accessFlags := 18, slot := 1, constantValue := 0 }]
  methods := #[k2m0, k2m1]
  instanceTypes := #[.int, .int]
  staticTypes := #[.int]
  resolved := Array.replicate 55 none
  statics := none }

def pool3 : Array CpInfo := pool [(1, u "java/lang/Cloneable"), (0, .class_ 1), (0, u "java/lang/Object"), (0, .class_ 3)] 3

/-- java/lang/Cloneable -/
def k3 : Class := { plain "java/lang/Cloneable" (some 0) with
  accessFlags := 1537
  interfaces := #[]
  cf := some (fileOf pool3 2 #[] #[] 1537 4 #[] #[])
  fields := #[]
  methods := #[]
  instanceTypes := #[]
  staticTypes := #[]
  resolved := Array.replicate 8 none
  statics := none }

def pool4 : Array CpInfo := pool [(1, u "java/io/Serializable"), (0, .class_ 1), (0, u "java/lang/Object"), (0, .class_ 3)] 3

/-- java/io/Serializable -/
def k4 : Class := { plain "java/io/Serializable" (some 0) with
  accessFlags := 1537
  interfaces := #[]
  cf := some (fileOf pool4 2 #[] #[] 1537 4 #[] #[])
  fields := #[]
  methods := #[]
  instanceTypes := #[]
  staticTypes := #[]
  resolved := Array.replicate 8 none
  statics := none }

/-- the primitive byte -/
def k5 : Class := { plain "byte" none with kind := .primitive 'B', accessFlags := 0x411 }
/-- [B -/
def k6 : Class := { plain "[B" (some 0) with kind := .array 5 .byte, interfaces := #[3, 4], accessFlags := 1041 }

/-- the primitive int -/
def k7 : Class := { plain "int" none with kind := .primitive 'I', accessFlags := 0x411 }
/-- [I -/
def k8 : Class := { plain "[I" (some 0) with kind := .array 7 .int, interfaces := #[3, 4], accessFlags := 1041 }

def heap : Heap := #[]
def classes : Array Class := #[k0, k1, k2, k3, k4, k5, k6, k7, k8]
def interned : List (Array UInt16 × Addr) := []
def slotsUsed : Nat := 0
def theMethod : MethodId := ⟨1, 1⟩
def args0 : Array Value := #[.int 5, .int 7, .int 9]
def aboutOver (below : List Frame) : State where
  vm := { classes := classes, interned := interned.toArray }
  heap := heap
  slotsUsed := slotsUsed
  threads := #[{ frames := .invoking theMethod args0 :: below }]
def below0 : List Frame := [.native { method := ⟨0, 0⟩, args := #[] }]
def about1 : State := aboutOver below0
def p0 : Program := .bare "" "" ""
def e0 : Env := launch0.env 0 0 0
theorem w_frames : about1.frames = Frame.invoking theMethod args0 :: below0 := rfl
set_option maxRecDepth 65536 in
theorem w_args : argsFit about1.vm theMethod args0 = true := by decide +kernel
set_option maxRecDepth 65536 in
theorem w_heap : heapFits about1 = true := by decide +kernel
set_option maxRecDepth 65536 in
theorem w_runnable : about1.curStatus? = some .runnable := by decide +kernel
set_option maxRecDepth 65536 in
theorem w_alone : about1.alone = true := by decide +kernel
set_option maxRecDepth 65536 in
theorem w_named : about1.methodNamed? x = some theMethod := by decide +kernel
set_option maxRecDepth 65536 in
theorem w_hears : about1.hears theMethod below0 = true := by decide +kernel
set_option maxRecDepth 65536 in
theorem w_ripe : about1.ripe theMethod args0 below0 = true := by decide +kernel
theorem w_running : about1.status = .running := rfl
set_option maxRecDepth 65536 in
theorem w_room : about1.hasRoom e0.platform room_1 = true :=
  launch0.hasRoom_least _ room_1 (by decide +kernel) (by decide +kernel) (by decide +kernel) (by decide +kernel) (by decide +kernel) (by decide +kernel)
theorem allAtoms_all (ts : List Jvm.Cond) (a : Array Jvm.Value) (st : Jvm.State) : (allAtoms ts).before a st = ts.all (fun c => c.before a st) := by
  induction ts with
  | nil => rfl
  | cons c t ih =>
    show (Jvm.Cond.and c (allAtoms t)).before a st = _
    rw [Jvm.Cond.before_and, ih, List.all_cons]
def words1 : List Jvm.Cond := Jvm.Cond.code x code maxLocals ret :: tables_1
/-- a 'code' word, met by the world's own term for the bytes: nothing is compared byte by byte -/
theorem code_word {y : MethodName} {bytes : ByteArray} {mx : Nat} {rt : Option FieldType} {a : Array Value} {s : State} {m : MethodId} {meth : Method} {c : Code} (h1 : s.methodNamed? y = some m) (h2 : s.vm.method? m = some meth) (h3 : meth.code = some c) (h4 : c.code = bytes)
    (h5 : (c.maxLocals == mx && c.exceptionTable.isEmpty && decide (c.maxStack ≤ mostOperands) && decide (meth.sig.returnType = rt) && !meth.locks && decide (parseMethodDescriptor y.desc = some meth.sig)) = true) : (Jvm.Cond.code y bytes mx rt).before a s = true := by
  simp only [Bool.and_eq_true, beq_iff_eq, Bool.not_eq_true', decide_eq_true_eq] at h5
  obtain ⟨⟨⟨⟨⟨g1, g2⟩, g3⟩, g4⟩, g5⟩, g6⟩ := h5
  simp [Cond.before, Cond.holds, Cond.value, h1, h2, h3, h4, g1, g2, g3, g4, g5, g6]
def isCode : Jvm.Cond → Bool
  | .code _ _ _ _ => true
  | _ => false
theorem all_split {L : List Jvm.Cond} {P : Jvm.Cond → Bool} (h1 : L.all (fun c => isCode c || P c) = true) (h2 : ∀ c ∈ L.filter isCode, P c = true) : L.all P = true := by
  refine List.all_eq_true.mpr fun c hc => ?_
  have h := List.all_eq_true.mp h1 c hc
  rcases Bool.eq_false_or_eq_true (isCode c) with hi | hi
  · exact h2 c (List.mem_filter.mpr ⟨hc, hi⟩)
  · simpa [hi] using h
set_option maxRecDepth 65536 in
theorem w_c0 : (Jvm.Cond.code x code maxLocals ret).before args0 about1 = true := code_word (m := ⟨1, 1⟩) (meth := k1m1) (c := k1c1) (by decide +kernel) rfl rfl rfl (by decide +kernel)
set_option maxRecDepth 65536 in
theorem w_c1 : (Jvm.Cond.code ({ cls := "com/example/biller/biller/components/ClockSpan", name := "<init>", desc := "(II)V" } : Jvm.MethodName) prog_55_method_1_code (3 : Nat) (Option.none : Option Jvm.ClassFile.FieldType)).before args0 about1 = true := code_word (m := ⟨2, 0⟩) (meth := k2m0) (c := k2c0) (by decide +kernel) rfl rfl rfl (by decide +kernel)
set_option maxRecDepth 65536 in
theorem w_c2 : (Jvm.Cond.code ({ cls := "java/lang/Object", name := "<init>", desc := "()V" } : Jvm.MethodName) object_method_1_code (1 : Nat) (Option.none : Option Jvm.ClassFile.FieldType)).before args0 about1 = true := code_word (m := ⟨0, 0⟩) (meth := k0m0) (c := k0c0) (by decide +kernel) rfl rfl rfl (by decide +kernel)
set_option maxRecDepth 65536 in
theorem w_c3 : (Jvm.Cond.code ({ cls := "com/example/biller/biller/components/ClockSpan", name := "holds", desc := "(I)Z" } : Jvm.MethodName) prog_55_method_4_code (2 : Nat) (Option.some Jvm.ClassFile.FieldType.boolean)).before args0 about1 = true := code_word (m := ⟨2, 1⟩) (meth := k2m1) (c := k2c1) (by decide +kernel) rfl rfl rfl (by decide +kernel)
def codes1 : List Jvm.Cond := [Jvm.Cond.code x code maxLocals ret, Jvm.Cond.code ({ cls := "com/example/biller/biller/components/ClockSpan", name := "<init>", desc := "(II)V" } : Jvm.MethodName) prog_55_method_1_code (3 : Nat) (Option.none : Option Jvm.ClassFile.FieldType), Jvm.Cond.code ({ cls := "java/lang/Object", name := "<init>", desc := "()V" } : Jvm.MethodName) object_method_1_code (1 : Nat) (Option.none : Option Jvm.ClassFile.FieldType), Jvm.Cond.code ({ cls := "com/example/biller/biller/components/ClockSpan", name := "holds", desc := "(I)Z" } : Jvm.MethodName) prog_55_method_4_code (2 : Nat) (Option.some Jvm.ClassFile.FieldType.boolean)]
set_option maxRecDepth 65536 in
theorem codes_eq : words1.filter isCode = codes1 := rfl
theorem w_codes : ∀ c ∈ words1.filter isCode, c.before args0 about1 = true := by
  rw [codes_eq]
  intro c hc
  simp only [codes1, List.mem_cons, List.not_mem_nil, or_false] at hc
  rcases hc with rfl | rfl | rfl | rfl
  · exact w_c0
  · exact w_c1
  · exact w_c2
  · exact w_c3
set_option maxRecDepth 65536 in
theorem w_t1 : words1.all (fun c => isCode c || c.before args0 about1) = true := by decide +kernel
theorem w_tables : (allAtoms (Jvm.Cond.code x code maxLocals ret :: tables_1)).before args0 about1 = true := by
  rw [allAtoms_all]
  show words1.all (fun c => c.before args0 about1) = true
  refine all_split ?_ w_codes
  rw [w_t1]
set_option maxRecDepth 65536 in
theorem w_case : (Jvm.Cond.and given_1 narrow_1).before args0 about1 = true := by decide +kernel
theorem w_applies : (headSpec (Jvm.Cond.code x code maxLocals ret :: tables_1) room_1).applies x e0.platform about1 = true :=
  (Spec.applies_iff w_frames).mpr ⟨w_running, w_runnable, w_alone, w_named, w_hears, w_ripe, w_room, w_tables⟩
theorem atStart : AtStart classFile x code maxLocals ret World_1 tables_1 room_1 Calls_1 rest_1 Pre_1 launch0 p0 e0 about1 theMethod args0 below0 :=
  ⟨lists_1, trivial, launch0.admits_env _ _ _, launch0.least_env, fairChoices_fair.cas, fairChoices_fair.clock, w_frames, w_args, w_heap, w_applies, trivial, trivial, w_case⟩
end start1
theorem witness_1 : WitnessClaimed_1 := ⟨start1.p0, start1.e0, start1.about1, start1.theMethod, start1.args0, start1.below0, start1.atStart⟩
end Jvm.Pilot.@@N@@
