import JvmDerived
import JvmDerived.Pilot.@@N@@Statement
import JvmDerived.Pilot.@@N@@Code
set_option linter.unusedVariables false
set_option linter.unusedSimpArgs false
namespace Jvm.OwnKit
open Sem ClassFile Op Lib Jvm.Stand Jvm.Free Jvm.LawKit Jvm.RoadKit
/-- from S the run comes to a state of which Φ holds -/
def Go (p : Program) (e : Env) (below : List Frame) (Φ : State → Prop) (S : State) : Prop := ∃ u, Steps p.tables e below S u ∧ Φ u
theorem Go.step {p : Program} {e : Env} {below : List Frame} {Φ : State → Prop} {S S' : State} (h : ∀ t, Steps p.tables e below S' t → Steps p.tables e below S t) (k : Go p e below Φ S') : Go p e below Φ S := by
  obtain ⟨u, q, r⟩ := k
  exact ⟨u, h u q, r⟩
theorem Go.trans {p : Program} {e : Env} {below : List Frame} {Φ : State → Prop} {S S' : State} (h : Steps p.tables e below S S') (k : Go p e below Φ S') : Go p e below Φ S := by
  obtain ⟨u, q, r⟩ := k
  exact ⟨u, Steps.trans h q, r⟩
theorem Go.here {p : Program} {e : Env} {below : List Frame} {Φ : State → Prop} {S : State} (k : Φ S) : Go p e below Φ S := ⟨S, Steps.refl _, k⟩
/-- the end of a body -/
def FinQ (below : List Frame) (s : State) (Q : Option Value → Heap → List Loc → Prop) (k n : Nat) (u : State) : Prop :=
  ∃ o, u.status = .running ∧ Ended u below o ∧ ∃ v L, o = .returned v ∧ Q v u.heap L ∧ FrameEnd s o u L k n
theorem Go.done {p : Program} {e : Env} {below : List Frame} {s : State} {Q : Option Value → Heap → List Loc → Prop} {k n : Nat} {S : State} (h : Go p e below (FinQ below s Q k n) S) :
    ∃ s₂ o, Steps p.tables e below S s₂ ∧ s₂.status = .running ∧ Ended s₂ below o ∧ ∃ v L, o = .returned v ∧ Q v s₂.heap L ∧ FrameEnd s o s₂ L k n := by
  obtain ⟨u, q, o, r1, r2, r3⟩ := h
  exact ⟨u, o, q, r1, r2, r3⟩
section New
variable {p : Program} {l : Launch} {e : Env} {R : Room} {s : State} {m : MethodId} {args : Array Value} {below : List Frame} {meth : Method} {c : Code} {T : State} {locs : List Loc} {cells slots : Nat}
/-- the run stands at the frame F, in a heap h -/
def AtF (p : Program) (l : Launch) (e : Env) (R : Room) (s : State) (m : MethodId) (args : Array Value) (below : List Frame) (meth : Method) (c : Code) (n0 cells slots : Nat) (h : Heap) (F : JFrame) (u : State) : Prop :=
  ∃ T' locs', u = T'.setTop F ∧ Stand p l e R s m args below meth c T' locs' cells slots ∧ Fr n0 locs' ∧ T'.heap = h
theorem retG {pc : Nat} {Ls : Array Slot} {w : Value} {t : FieldType} {i : Instr} {rest : List Value} {Q : Option Value → Heap → List Loc → Prop} {k n : Nat}
    (X : Stand p l e R s m args below meth c T locs cells slots) (hx : p.tables.exec = Jvm.exec) (hlocks : meth.locks = false) (hret : meth.sig.returnType = some t) (hn : narrow t w = w)
    (hi : (i = .ireturn ∧ (t = .int ∨ t = .boolean ∨ t = .byte ∨ t = .char ∨ t = .short) ∧ ∃ z, w = .int z) ∨ (i = .lreturn ∧ t = .long ∧ ∃ z, w = .long z) ∨ (i = .dreturn ∧ t = .double ∧ ∃ z, w = .double z) ∨ (i = .freturn ∧ t = .float ∧ ∃ z, w = .float z) ∨ (i = .areturn ∧ t.isReference = true ∧ w.isRef = true))
    (hd : decode c.code pc = .ok (i, 1)) (hQ : Q (some w) T.heap locs) (hc : cells ≤ k) (hs : slots ≤ n) : Go p e below (FinQ below s Q k n) (T.setTop (mkF m pc Ls (w :: rest))) := by
  obtain ⟨fs, hr, hrun, hended, hW, hsame⟩ := X.leave (v := some w) (fun h => by rw [hret] at h; cases h) hlocks
  exact ⟨_, retOut X hx hret hn hi hd hr, _, hrun, hended, _, _, rfl, hQ, ⟨_, rfl⟩, hW, hsame.mono hc hs⟩
theorem retGI {pc : Nat} {Ls : Array Slot} {z : Int32} {rest : List Value} {Q : Option Value → Heap → List Loc → Prop} {k n : Nat}
    (X : Stand p l e R s m args below meth c T locs cells slots) (hx : p.tables.exec = Jvm.exec) (hlocks : meth.locks = false) (hret : meth.sig.returnType = some .int)
    (hd : decode c.code pc = .ok (.ireturn, 1)) (hQ : Q (some (.int z)) T.heap locs) (hc : cells ≤ k) (hs : slots ≤ n) : Go p e below (FinQ below s Q k n) (T.setTop (mkF m pc Ls (.int z :: rest))) :=
  retG X hx hlocks hret rfl (Or.inl ⟨rfl, Or.inl rfl, _, rfl⟩) hd hQ hc hs
theorem retGJ {pc : Nat} {Ls : Array Slot} {z : Int64} {rest : List Value} {Q : Option Value → Heap → List Loc → Prop} {k n : Nat}
    (X : Stand p l e R s m args below meth c T locs cells slots) (hx : p.tables.exec = Jvm.exec) (hlocks : meth.locks = false) (hret : meth.sig.returnType = some .long)
    (hd : decode c.code pc = .ok (.lreturn, 1)) (hQ : Q (some (.long z)) T.heap locs) (hc : cells ≤ k) (hs : slots ≤ n) : Go p e below (FinQ below s Q k n) (T.setTop (mkF m pc Ls (.long z :: rest))) :=
  retG X hx hlocks hret rfl (Or.inr (Or.inl ⟨rfl, rfl, _, rfl⟩)) hd hQ hc hs
theorem retGR {pc : Nat} {Ls : Array Slot} {a : Addr} {t : FieldType} {rest : List Value} {Q : Option Value → Heap → List Loc → Prop} {k n : Nat}
    (X : Stand p l e R s m args below meth c T locs cells slots) (hx : p.tables.exec = Jvm.exec) (hlocks : meth.locks = false) (hret : meth.sig.returnType = some t) (ht : t.isReference = true) (hn : narrow t (.ref a) = .ref a)
    (hd : decode c.code pc = .ok (.areturn, 1)) (hQ : Q (some (.ref a)) T.heap locs) (hc : cells ≤ k) (hs : slots ≤ n) : Go p e below (FinQ below s Q k n) (T.setTop (mkF m pc Ls (.ref a :: rest))) :=
  retG X hx hlocks hret hn (Or.inr (Or.inr (Or.inr (Or.inr ⟨rfl, ht, rfl⟩)))) hd hQ hc hs
theorem retGN {pc : Nat} {Ls : Array Slot} {z z' : Int32} {t : FieldType} {rest : List Value} {Q : Option Value → Heap → List Loc → Prop} {k n : Nat}
    (X : Stand p l e R s m args below meth c T locs cells slots) (hx : p.tables.exec = Jvm.exec) (hlocks : meth.locks = false) (hret : meth.sig.returnType = some t) (ht : t = .boolean ∨ t = .byte ∨ t = .char ∨ t = .short) (hz : nar t z = z')
    (hd : decode c.code pc = .ok (.ireturn, 1)) (hQ : Q (some (.int z')) T.heap locs) (hc : cells ≤ k) (hs : slots ≤ n) : Go p e below (FinQ below s Q k n) (T.setTop (mkF m pc Ls (.int z :: rest))) := by
  subst hz
  obtain ⟨fs, hr, hrun, hended, hW, hsame⟩ := X.leave (v := some (.int (nar t z))) (fun h => by rw [hret] at h; cases h) hlocks
  exact ⟨_, retN X hx hret ht hd hr, _, hrun, hended, _, _, rfl, hQ, ⟨_, rfl⟩, hW, hsame.mono hc hs⟩
theorem retGV {pc : Nat} {Ls : Array Slot} {Q : Option Value → Heap → List Loc → Prop} {k n : Nat}
    (X : Stand p l e R s m args below meth c T locs cells slots) (hx : p.tables.exec = Jvm.exec) (hlocks : meth.locks = false) (hret : meth.sig.returnType = none)
    (hd : decode c.code pc = .ok (.return_, 1)) (hQ : Q none T.heap locs) (hc : cells ≤ k) (hs : slots ≤ n) : Go p e below (FinQ below s Q k n) (T.setTop (mkF m pc Ls [])) := by
  obtain ⟨fs, hr, hrun, hended, hW, hsame⟩ := X.leave (v := none) (fun _ => rfl) hlocks
  exact ⟨_, X.returnOut hx hret hd hr, _, hrun, hended, _, _, rfl, hQ, ⟨_, rfl⟩, hW, hsame.mono hc hs⟩
end New
/-- a body that writes nothing and returns r -/
def QP (r : Value) (h0 : Heap) (n0 : Nat) (v : Option Value) (h : Heap) (L : List Loc) : Prop := v = some r ∧ Fr n0 L ∧ h = h0
def QV (h0 : Heap) (n0 : Nat) (v : Option Value) (h : Heap) (L : List Loc) : Prop := v = none ∧ Fr n0 L ∧ h = h0
/-- a law: it returns r and writes nothing old -/
def QL (r : Value) (n0 : Nat) (v : Option Value) (h : Heap) (L : List Loc) : Prop := v = some r ∧ Fr n0 L
theorem remI (x y : Int32) : x - (x / y) * y = x % y := by
  rw [← Int32.toInt_inj, Int32.toInt_sub, Int32.toInt_mul, Int32.toInt_div, Int32.toInt_mod]
  have h := Int.tmod_add_mul_tdiv x.toInt y.toInt
  have r : (x.toInt.tmod y.toInt).bmod (2 ^ 32) = x.toInt.tmod y.toInt := by
    have := Int32.toInt_bmod (x % y)
    rwa [Int32.toInt_mod] at this
  rw [← r]
  have e : ((x.toInt.tdiv y.toInt).bmod (2 ^ 32) * y.toInt).bmod (2 ^ 32) = (x.toInt.tdiv y.toInt * y.toInt).bmod (2 ^ 32) := by simp
  rw [e, Int.sub_bmod_bmod]
  congr 1
  have := Int.mul_comm (x.toInt.tdiv y.toInt) y.toInt
  omega
theorem addI {x y : Int32} (h1 : -2147483648 ≤ x.toInt + y.toInt) (h2 : x.toInt + y.toInt < 2147483648) : (x + y).toInt = x.toInt + y.toInt := by have := c_iadd x y; have := rng32 (x + y); omega
theorem subI {x y : Int32} (h1 : -2147483648 ≤ x.toInt - y.toInt) (h2 : x.toInt - y.toInt < 2147483648) : (x - y).toInt = x.toInt - y.toInt := by have := c_isub x y; have := rng32 (x - y); omega
theorem mulI {x y : Int32} (h1 : -2147483648 ≤ x.toInt * y.toInt) (h2 : x.toInt * y.toInt < 2147483648) : (x * y).toInt = x.toInt * y.toInt := by have := c_imul x y; have := rng32 (x * y); omega
theorem addL {x y : Int64} (h1 : -9223372036854775808 ≤ x.toInt + y.toInt) (h2 : x.toInt + y.toInt < 9223372036854775808) : (x + y).toInt = x.toInt + y.toInt := by have := c_ladd x y; have := rng64 (x + y); omega
theorem subL {x y : Int64} (h1 : -9223372036854775808 ≤ x.toInt - y.toInt) (h2 : x.toInt - y.toInt < 9223372036854775808) : (x - y).toInt = x.toInt - y.toInt := by have := c_lsub x y; have := rng64 (x - y); omega
theorem mulL {x y : Int64} (h1 : -9223372036854775808 ≤ x.toInt * y.toInt) (h2 : x.toInt * y.toInt < 9223372036854775808) : (x * y).toInt = x.toInt * y.toInt := by have := c_lmul x y; have := rng64 (x * y); omega
theorem modI {x y : Int32} (d : Int) (hy : y.toInt = d) (hx : 0 ≤ x.toInt) : (x % y).toInt = x.toInt % d := by rw [Int32.toInt_mod, hy]; exact (tr _ _).1 hx
theorem modL {x y : Int64} (d : Int) (hy : y.toInt = d) (hx : 0 ≤ x.toInt) : (x % y).toInt = x.toInt % d := by rw [Int64.toInt_mod, hy]; exact (tr _ _).1 hx
end Jvm.OwnKit
namespace Jvm.Pilot.@@N@@
open Jvm Jvm.ClassFile Sem Op Lib Jvm.Free Jvm.Stand Jvm.LawKit Jvm.RoadKit Jvm.OwnKit Bundle Jvm.Pilot.@@N@@.Jvm.D
theorem d2_0 : decode jdk_29_method_69_code 0 = .ok (.iload_n 0, 1) := by decide +kernel
theorem d2_1 : decode jdk_29_method_69_code 1 = .ok (.iload_n 1, 1) := by decide +kernel
theorem d2_2 : decode jdk_29_method_69_code 2 = .ok (.if_icmp .gt 7, 3) := by decide +kernel
theorem d2_9 : decode jdk_29_method_69_code 9 = .ok (.iload_n 1, 1) := by decide +kernel
theorem d2_10 : decode jdk_29_method_69_code 10 = .ok (.ireturn, 1) := by decide +kernel
theorem d2_5 : decode jdk_29_method_69_code 5 = .ok (.iload_n 0, 1) := by decide +kernel
theorem d2_6 : decode jdk_29_method_69_code 6 = .ok (.goto 4, 3) := by decide +kernel
theorem ef_2 (m : MethodId) (p1 : Int32) (p2 : Int32) : entryFrame m #[(.int p1), (.int p2)] 2 = mkF m 0 #[.val (.int p1), .val (.int p2)] [] := by first | (simp [entryFrame, mkF, argsToLocals, Value.category]; done) | rfl
def f2 (p1 : Int32) (p2 : Int32) : Int32 := (if p2 < p1 then p2 else p1)
set_option maxRecDepth 65536 in
set_option maxHeartbeats 40000000 in
theorem rm2 (l : Launch) (Z : State) (a0 : Array Value) (hw : ∀ d ∈ tables_1, d.before a0 Z = true) (ws : List Jvm.Cond) (p1 : Int32) (p2 : Int32) (h0 : Heap) (n0 : Nat) (Z0 : n0 ≤ h0.size) :
    MetFree l (⟨"java/lang/Math", "min", "(II)I"⟩ : MethodName) (head1 (Jvm.Cond.code (⟨"java/lang/Math", "min", "(II)I"⟩ : MethodName) jdk_29_method_69_code 2 (some .int) :: ws) ({ frames := 0, cells := 0, slots := 0, locals := 0 } : Room)) (fun a U => a = #[(.int p1), (.int p2)] ∧ Z.Warmed39 U.vm ∧ U.heap = h0) (fun _ _ _ _ _ => True) (fun _ U o U' => ∃ v L, o = .returned v ∧ QP (.int (f2 p1 p2)) h0 n0 v U'.heap L ∧ FrameEnd U o U' L ({ frames := 0, cells := 0, slots := 0, locals := 0 } : Room).cells ({ frames := 0, cells := 0, slots := 0, locals := 0 } : Room).slots) := by
  refine MetFree.of_bodySF (Jvm.Free.JP.mathPlain rfl (by decide +kernel)) hisR ?_
  intro p e s m args below meth c s₁ Bd hml0 hP hK
  obtain ⟨rfl, hZ, hh⟩ := hP
  have hx := Bd.exec
  have hby := Bd.bytes
  have hml : c.maxLocals = 2 := hml0
  have hown : s.vm.findClass "java/lang/Math" = some m.cls := findClass_of_methodNamed Bd.named
  have hnm := (name_of_methodNamed Bd.named Bd.method).1
  have X0 : Stand p l e ({ frames := 0, cells := 0, slots := 0, locals := 0 } : Room) s m #[(.int p1), (.int p2)] below meth c s₁ [] 0 0 := Stand.of_body Bd
  have e0 : s₁.heap = h0 := by rw [← hh, Bd.state]; rfl
  have N0 := Fr.nil n0
  refine Go.done (Go.step (fun t k => castTop (ef_2 m p1 p2) k) ?_)
  show Go p e below _ (s₁.setTop (mkF m 0 #[.val (.int p1), .val (.int p2)] []))
  refine Go.step (fun t k => XS.iloadN X0.here hx rfl (hb hby d2_0) rfl k) ?_
  show Go p e below _ (s₁.setTop (mkF m 1 #[.val (.int p1), .val (.int p2)] [(.int p1)]))
  refine Go.step (fun t k => XS.iloadN X0.here hx rfl (hb hby d2_1) rfl k) ?_
  show Go p e below _ (s₁.setTop (mkF m 2 #[.val (.int p1), .val (.int p2)] [(.int p2), (.int p1)]))
  by_cases hc3 : p2 < p1
  · refine Go.step (fun t k => XS.icmpYes X0.here hx rfl (pc0 := 2) (pc' := 9) rfl (hb hby d2_2) rfl (tlt hc3).2.2.1 (by decide) (by decide) k) ?_
    show Go p e below _ (s₁.setTop (mkF m 9 #[.val (.int p1), .val (.int p2)] []))
    refine Go.step (fun t k => XS.iloadN X0.here hx rfl (hb hby d2_9) rfl k) ?_
    show Go p e below _ (s₁.setTop (mkF m 10 #[.val (.int p1), .val (.int p2)] [(.int p2)]))
    exact retGI X0 hx Bd.notSynchronized Bd.returns (hb hby d2_10) ⟨by first | (simp only [f2, if_pos hc3]; done) | rfl | (simp [f2, if_pos hc3]; done), N0, e0⟩ (by decide) (by decide)
  · refine Go.step (fun t k => XS.icmpNo X0.here hx rfl (hb hby d2_2) rfl (flt hc3).2.2.1 k) ?_
    show Go p e below _ (s₁.setTop (mkF m 5 #[.val (.int p1), .val (.int p2)] []))
    refine Go.step (fun t k => XS.iloadN X0.here hx rfl (hb hby d2_5) rfl k) ?_
    show Go p e below _ (s₁.setTop (mkF m 6 #[.val (.int p1), .val (.int p2)] [(.int p1)]))
    refine Go.step (fun t k => XS.goto X0.here hx rfl (pc0 := 6) (pc' := 10) rfl (hb hby d2_6) (by decide) (by decide) k) ?_
    show Go p e below _ (s₁.setTop (mkF m 10 #[.val (.int p1), .val (.int p2)] [(.int p1)]))
    exact retGI X0 hx Bd.notSynchronized Bd.returns (hb hby d2_10) ⟨by first | (simp only [f2, if_neg hc3]; done) | rfl | (simp [f2, if_neg hc3]; done), N0, e0⟩ (by decide) (by decide)
theorem d3_0 : decode jdk_29_method_65_code 0 = .ok (.iload_n 0, 1) := by decide +kernel
theorem d3_1 : decode jdk_29_method_65_code 1 = .ok (.iload_n 1, 1) := by decide +kernel
theorem d3_2 : decode jdk_29_method_65_code 2 = .ok (.if_icmp .lt 7, 3) := by decide +kernel
theorem d3_9 : decode jdk_29_method_65_code 9 = .ok (.iload_n 1, 1) := by decide +kernel
theorem d3_10 : decode jdk_29_method_65_code 10 = .ok (.ireturn, 1) := by decide +kernel
theorem d3_5 : decode jdk_29_method_65_code 5 = .ok (.iload_n 0, 1) := by decide +kernel
theorem d3_6 : decode jdk_29_method_65_code 6 = .ok (.goto 4, 3) := by decide +kernel
theorem ef_3 (m : MethodId) (p1 : Int32) (p2 : Int32) : entryFrame m #[(.int p1), (.int p2)] 2 = mkF m 0 #[.val (.int p1), .val (.int p2)] [] := by first | (simp [entryFrame, mkF, argsToLocals, Value.category]; done) | rfl
def f3 (p1 : Int32) (p2 : Int32) : Int32 := (if p1 < p2 then p2 else p1)
set_option maxRecDepth 65536 in
set_option maxHeartbeats 40000000 in
theorem rm3 (l : Launch) (Z : State) (a0 : Array Value) (hw : ∀ d ∈ tables_1, d.before a0 Z = true) (ws : List Jvm.Cond) (p1 : Int32) (p2 : Int32) (h0 : Heap) (n0 : Nat) (Z0 : n0 ≤ h0.size) :
    MetFree l (⟨"java/lang/Math", "max", "(II)I"⟩ : MethodName) (head1 (Jvm.Cond.code (⟨"java/lang/Math", "max", "(II)I"⟩ : MethodName) jdk_29_method_65_code 2 (some .int) :: ws) ({ frames := 0, cells := 0, slots := 0, locals := 0 } : Room)) (fun a U => a = #[(.int p1), (.int p2)] ∧ Z.Warmed39 U.vm ∧ U.heap = h0) (fun _ _ _ _ _ => True) (fun _ U o U' => ∃ v L, o = .returned v ∧ QP (.int (f3 p1 p2)) h0 n0 v U'.heap L ∧ FrameEnd U o U' L ({ frames := 0, cells := 0, slots := 0, locals := 0 } : Room).cells ({ frames := 0, cells := 0, slots := 0, locals := 0 } : Room).slots) := by
  refine MetFree.of_bodySF (Jvm.Free.JP.mathPlain rfl (by decide +kernel)) hisR ?_
  intro p e s m args below meth c s₁ Bd hml0 hP hK
  obtain ⟨rfl, hZ, hh⟩ := hP
  have hx := Bd.exec
  have hby := Bd.bytes
  have hml : c.maxLocals = 2 := hml0
  have hown : s.vm.findClass "java/lang/Math" = some m.cls := findClass_of_methodNamed Bd.named
  have hnm := (name_of_methodNamed Bd.named Bd.method).1
  have X0 : Stand p l e ({ frames := 0, cells := 0, slots := 0, locals := 0 } : Room) s m #[(.int p1), (.int p2)] below meth c s₁ [] 0 0 := Stand.of_body Bd
  have e0 : s₁.heap = h0 := by rw [← hh, Bd.state]; rfl
  have N0 := Fr.nil n0
  refine Go.done (Go.step (fun t k => castTop (ef_3 m p1 p2) k) ?_)
  show Go p e below _ (s₁.setTop (mkF m 0 #[.val (.int p1), .val (.int p2)] []))
  refine Go.step (fun t k => XS.iloadN X0.here hx rfl (hb hby d3_0) rfl k) ?_
  show Go p e below _ (s₁.setTop (mkF m 1 #[.val (.int p1), .val (.int p2)] [(.int p1)]))
  refine Go.step (fun t k => XS.iloadN X0.here hx rfl (hb hby d3_1) rfl k) ?_
  show Go p e below _ (s₁.setTop (mkF m 2 #[.val (.int p1), .val (.int p2)] [(.int p2), (.int p1)]))
  by_cases hc3 : p1 < p2
  · refine Go.step (fun t k => XS.icmpYes X0.here hx rfl (pc0 := 2) (pc' := 9) rfl (hb hby d3_2) rfl (tlt hc3).1 (by decide) (by decide) k) ?_
    show Go p e below _ (s₁.setTop (mkF m 9 #[.val (.int p1), .val (.int p2)] []))
    refine Go.step (fun t k => XS.iloadN X0.here hx rfl (hb hby d3_9) rfl k) ?_
    show Go p e below _ (s₁.setTop (mkF m 10 #[.val (.int p1), .val (.int p2)] [(.int p2)]))
    exact retGI X0 hx Bd.notSynchronized Bd.returns (hb hby d3_10) ⟨by first | (simp only [f3, if_pos hc3]; done) | rfl | (simp [f3, if_pos hc3]; done), N0, e0⟩ (by decide) (by decide)
  · refine Go.step (fun t k => XS.icmpNo X0.here hx rfl (hb hby d3_2) rfl (flt hc3).1 k) ?_
    show Go p e below _ (s₁.setTop (mkF m 5 #[.val (.int p1), .val (.int p2)] []))
    refine Go.step (fun t k => XS.iloadN X0.here hx rfl (hb hby d3_5) rfl k) ?_
    show Go p e below _ (s₁.setTop (mkF m 6 #[.val (.int p1), .val (.int p2)] [(.int p1)]))
    refine Go.step (fun t k => XS.goto X0.here hx rfl (pc0 := 6) (pc' := 10) rfl (hb hby d3_6) (by decide) (by decide) k) ?_
    show Go p e below _ (s₁.setTop (mkF m 10 #[.val (.int p1), .val (.int p2)] [(.int p1)]))
    exact retGI X0 hx Bd.notSynchronized Bd.returns (hb hby d3_10) ⟨by first | (simp only [f3, if_neg hc3]; done) | rfl | (simp [f3, if_neg hc3]; done), N0, e0⟩ (by decide) (by decide)
theorem d1_0 : decode prog_18_method_2_code 0 = .ok (.iload_n 0, 1) := by decide +kernel
theorem d1_1 : decode prog_18_method_2_code 1 = .ok (.iload_n 1, 1) := by decide +kernel
theorem d1_2 : decode prog_18_method_2_code 2 = .ok (.invokestatic 7, 3) := by decide +kernel
theorem pd_0 : parseMethodDescriptor "(II)I" = some ⟨[.int, .int], some .int⟩ := by decide +kernel
theorem d1_5 : decode prog_18_method_2_code 5 = .ok (.i2l, 1) := by decide +kernel
theorem d1_6 : decode prog_18_method_2_code 6 = .ok (.bipush 32, 2) := by decide +kernel
theorem d1_8 : decode prog_18_method_2_code 8 = .ok (.lshl, 1) := by decide +kernel
theorem d1_9 : decode prog_18_method_2_code 9 = .ok (.iload_n 0, 1) := by decide +kernel
theorem d1_10 : decode prog_18_method_2_code 10 = .ok (.iload_n 1, 1) := by decide +kernel
theorem d1_11 : decode prog_18_method_2_code 11 = .ok (.invokestatic 13, 3) := by decide +kernel
theorem d1_14 : decode prog_18_method_2_code 14 = .ok (.i2l, 1) := by decide +kernel
theorem d1_15 : decode prog_18_method_2_code 15 = .ok (.lor, 1) := by decide +kernel
theorem d1_16 : decode prog_18_method_2_code 16 = .ok (.lreturn, 1) := by decide +kernel
theorem ef_1 (m : MethodId) (p1 : Int32) (p2 : Int32) : entryFrame m #[(.int p1), (.int p2)] 2 = mkF m 0 #[.val (.int p1), .val (.int p2)] [] := by first | (simp [entryFrame, mkF, argsToLocals, Value.category]; done) | rfl
theorem pn_0 : plainName "com/example/hertzbid/hertzbid/ConflictPairs" = true := by first | (simp [plainName, overriddenIn]; done) | decide +kernel
def f1 (p1 : Int32) (p2 : Int32) : Int64 := ((((f2 p1 p2).toInt64) <<< ((32 : Int32) &&& 0x3f).toInt64) ||| ((f3 p1 p2).toInt64))
set_option maxRecDepth 65536 in
set_option maxHeartbeats 40000000 in
theorem rm1 (l : Launch) (Z : State) (a0 : Array Value) (hw : ∀ d ∈ tables_1, d.before a0 Z = true) (ws : List Jvm.Cond) (p1 : Int32) (p2 : Int32) (h0 : Heap) (n0 : Nat) (Z0 : n0 ≤ h0.size) :
    MetFree l (⟨"com/example/hertzbid/hertzbid/ConflictPairs", "of", "(II)J"⟩ : MethodName) (head1 (Jvm.Cond.code (⟨"com/example/hertzbid/hertzbid/ConflictPairs", "of", "(II)J"⟩ : MethodName) prog_18_method_2_code 2 (some .long) :: ws) ({ frames := 1, cells := 0, slots := 0, locals := 15 } : Room)) (fun a U => a = #[(.int p1), (.int p2)] ∧ Z.Warmed39 U.vm ∧ U.heap = h0) (fun _ _ _ _ _ => True) (fun _ U o U' => ∃ v L, o = .returned v ∧ QP (.long (f1 p1 p2)) h0 n0 v U'.heap L ∧ FrameEnd U o U' L ({ frames := 1, cells := 0, slots := 0, locals := 15 } : Room).cells ({ frames := 1, cells := 0, slots := 0, locals := 15 } : Room).slots) := by
  refine MetFree.of_bodySF (plainFor_of_name pn_0) hisR ?_
  intro p e s m args below meth c s₁ Bd hml0 hP hK
  obtain ⟨rfl, hZ, hh⟩ := hP
  have hx := Bd.exec
  have hby := Bd.bytes
  have hml : c.maxLocals = 2 := hml0
  have hown : s.vm.findClass "com/example/hertzbid/hertzbid/ConflictPairs" = some m.cls := findClass_of_methodNamed Bd.named
  have hnm := (name_of_methodNamed Bd.named Bd.method).1
  have X0 : Stand p l e ({ frames := 1, cells := 0, slots := 0, locals := 15 } : Room) s m #[(.int p1), (.int p2)] below meth c s₁ [] 0 0 := Stand.of_body Bd
  have e0 : s₁.heap = h0 := by rw [← hh, Bd.state]; rfl
  have N0 := Fr.nil n0
  refine Go.done (Go.step (fun t k => castTop (ef_1 m p1 p2) k) ?_)
  show Go p e below _ (s₁.setTop (mkF m 0 #[.val (.int p1), .val (.int p2)] []))
  refine Go.step (fun t k => XS.iloadN X0.here hx rfl (hb hby d1_0) rfl k) ?_
  show Go p e below _ (s₁.setTop (mkF m 1 #[.val (.int p1), .val (.int p2)] [(.int p1)]))
  refine Go.step (fun t k => XS.iloadN X0.here hx rfl (hb hby d1_1) rfl k) ?_
  show Go p e below _ (s₁.setTop (mkF m 2 #[.val (.int p1), .val (.int p2)] [(.int p2), (.int p1)]))
  obtain ⟨_, _, ⟨T3, L3, k3, n3⟩, -, X3, ⟨Lc3, hQ3, l3, y3, z3⟩, st3⟩ := Jvm.LawKit.callS X0 hx (y := (⟨"java/lang/Math", "min", "(II)I"⟩ : MethodName)) hown (mvT hZ (hw _ (List.mem_of_getElem? (i := 5) rfl))) (mvT hZ (hw _ (List.mem_of_getElem? (i := 6) rfl))) (mvT hZ (hw _ (List.mem_of_getElem? (i := 7) rfl))) (mvT hZ (hw _ (List.mem_of_getElem? (i := 8) rfl))) (by decide) (backOf (W := 0) (rm2 l Z a0 hw [] p1 p2 h0 n0 Z0) hZ (hw _ (List.mem_of_getElem? (i := 8) rfl)) (hw _ (List.mem_of_getElem? (i := 7) rfl)) (by decide) (by decide)) (g := (mkF m 2 #[.val (.int p1), .val (.int p2)] [(.int p2), (.int p1)])) rfl (by rw [hml]; rfl) (argsL := [(.int p1), (.int p2)]) (rest := []) (lenOf pd_0 rfl) rfl (by show 2 * 0 + _ ≤ _; exact Nat.le_of_eq rfl) (hb hby d1_2) (fun _ _ => ⟨rfl, e0, (by decide : 0 + 0 ≤ _), (by decide : 0 + 0 ≤ _)⟩)
  dsimp only [Pt.U, Pt.locs, Pt.cells, Pt.slots] at X3 l3 y3 z3 st3 hQ3
  subst l3 y3 z3
  obtain ⟨rfl, N3q, e3⟩ := hQ3
  have N3 := Fr.app N0 N3q
  refine Go.step st3 ?_
  show Go p e below _ (T3.setTop (mkF m 5 #[.val (.int p1), .val (.int p2)] [(.int (f2 p1 p2))]))
  refine Go.step (fun t k => XS.i2l X3.here hx rfl (hb hby d1_5) rfl k) ?_
  show Go p e below _ (T3.setTop (mkF m 6 #[.val (.int p1), .val (.int p2)] [(.long ((f2 p1 p2).toInt64))]))
  refine Go.step (fun t k => XS.bipush X3.here hx rfl (hb hby d1_6)  k) ?_
  show Go p e below _ (T3.setTop (mkF m 8 #[.val (.int p1), .val (.int p2)] [(.int (32 : Int32)), (.long ((f2 p1 p2).toInt64))]))
  refine Go.step (fun t k => XS.lshl X3.here hx rfl (hb hby d1_8) rfl k) ?_
  show Go p e below _ (T3.setTop (mkF m 9 #[.val (.int p1), .val (.int p2)] [(.long (((f2 p1 p2).toInt64) <<< ((32 : Int32) &&& 0x3f).toInt64))]))
  refine Go.step (fun t k => XS.iloadN X3.here hx rfl (hb hby d1_9) rfl k) ?_
  show Go p e below _ (T3.setTop (mkF m 10 #[.val (.int p1), .val (.int p2)] [(.int p1), (.long (((f2 p1 p2).toInt64) <<< ((32 : Int32) &&& 0x3f).toInt64))]))
  refine Go.step (fun t k => XS.iloadN X3.here hx rfl (hb hby d1_10) rfl k) ?_
  show Go p e below _ (T3.setTop (mkF m 11 #[.val (.int p1), .val (.int p2)] [(.int p2), (.int p1), (.long (((f2 p1 p2).toInt64) <<< ((32 : Int32) &&& 0x3f).toInt64))]))
  obtain ⟨_, _, ⟨T4, L4, k4, n4⟩, -, X4, ⟨Lc4, hQ4, l4, y4, z4⟩, st4⟩ := Jvm.LawKit.callS X3 hx (y := (⟨"java/lang/Math", "max", "(II)I"⟩ : MethodName)) hown (mvT hZ (hw _ (List.mem_of_getElem? (i := 9) rfl))) (mvT hZ (hw _ (List.mem_of_getElem? (i := 10) rfl))) (mvT hZ (hw _ (List.mem_of_getElem? (i := 7) rfl))) (mvT hZ (hw _ (List.mem_of_getElem? (i := 11) rfl))) (by decide) (backOf (W := 2) (rm3 l Z a0 hw [] p1 p2 h0 n0 Z0) hZ (hw _ (List.mem_of_getElem? (i := 11) rfl)) (hw _ (List.mem_of_getElem? (i := 7) rfl)) (by decide) (by decide)) (g := (mkF m 11 #[.val (.int p1), .val (.int p2)] [(.int p2), (.int p1), (.long (((f2 p1 p2).toInt64) <<< ((32 : Int32) &&& 0x3f).toInt64))])) rfl (by rw [hml]; rfl) (argsL := [(.int p1), (.int p2)]) (rest := [(.long (((f2 p1 p2).toInt64) <<< ((32 : Int32) &&& 0x3f).toInt64))]) (lenOf pd_0 rfl) rfl (by show 2 * 0 + _ ≤ _; exact Nat.le_of_eq rfl) (hb hby d1_11) (fun _ _ => ⟨rfl, e3, (by decide : 0 + 0 ≤ _), (by decide : 0 + 0 ≤ _)⟩)
  dsimp only [Pt.U, Pt.locs, Pt.cells, Pt.slots] at X4 l4 y4 z4 st4 hQ4
  subst l4 y4 z4
  obtain ⟨rfl, N4q, e4⟩ := hQ4
  have N4 := Fr.app N3 N4q
  refine Go.step st4 ?_
  show Go p e below _ (T4.setTop (mkF m 14 #[.val (.int p1), .val (.int p2)] [(.int (f3 p1 p2)), (.long (((f2 p1 p2).toInt64) <<< ((32 : Int32) &&& 0x3f).toInt64))]))
  refine Go.step (fun t k => XS.i2l X4.here hx rfl (hb hby d1_14) rfl k) ?_
  show Go p e below _ (T4.setTop (mkF m 15 #[.val (.int p1), .val (.int p2)] [(.long ((f3 p1 p2).toInt64)), (.long (((f2 p1 p2).toInt64) <<< ((32 : Int32) &&& 0x3f).toInt64))]))
  refine Go.step (fun t k => XS.lor X4.here hx rfl (hb hby d1_15) rfl k) ?_
  show Go p e below _ (T4.setTop (mkF m 16 #[.val (.int p1), .val (.int p2)] [(.long ((((f2 p1 p2).toInt64) <<< ((32 : Int32) &&& 0x3f).toInt64) ||| ((f3 p1 p2).toInt64)))]))
  exact retGJ X4 hx Bd.notSynchronized Bd.returns (hb hby d1_16) ⟨by first | rfl | (simp only [f1]; done) | (simp [f1]; done), N4, e4⟩ (by decide) (by decide)
theorem d4_0 : decode prog_18_method_3_code 0 = .ok (.lload_n 0, 1) := by decide +kernel
theorem d4_1 : decode prog_18_method_3_code 1 = .ok (.bipush 32, 2) := by decide +kernel
theorem d4_3 : decode prog_18_method_3_code 3 = .ok (.lushr, 1) := by decide +kernel
theorem d4_4 : decode prog_18_method_3_code 4 = .ok (.l2i, 1) := by decide +kernel
theorem d4_5 : decode prog_18_method_3_code 5 = .ok (.ireturn, 1) := by decide +kernel
theorem ef_4 (m : MethodId) (q1 : Int64) : entryFrame m #[(.long q1)] 2 = mkF m 0 #[.val (.long q1), .second] [] := by first | (simp [entryFrame, mkF, argsToLocals, Value.category]; done) | rfl
def f4 (q1 : Int64) : Int32 := (((q1.toUInt64 >>> ((32 : Int32) &&& 0x3f).toInt64.toUInt64).toInt64).toInt32)
set_option maxRecDepth 65536 in
set_option maxHeartbeats 40000000 in
theorem rm4 (l : Launch) (Z : State) (a0 : Array Value) (hw : ∀ d ∈ tables_1, d.before a0 Z = true) (ws : List Jvm.Cond) (q1 : Int64) (h0 : Heap) (n0 : Nat) (Z0 : n0 ≤ h0.size) :
    MetFree l (⟨"com/example/hertzbid/hertzbid/ConflictPairs", "first", "(J)I"⟩ : MethodName) (head1 (Jvm.Cond.code (⟨"com/example/hertzbid/hertzbid/ConflictPairs", "first", "(J)I"⟩ : MethodName) prog_18_method_3_code 2 (some .int) :: ws) ({ frames := 0, cells := 0, slots := 0, locals := 0 } : Room)) (fun a U => a = #[(.long q1)] ∧ Z.Warmed39 U.vm ∧ U.heap = h0) (fun _ _ _ _ _ => True) (fun _ U o U' => ∃ v L, o = .returned v ∧ QP (.int (f4 q1)) h0 n0 v U'.heap L ∧ FrameEnd U o U' L ({ frames := 0, cells := 0, slots := 0, locals := 0 } : Room).cells ({ frames := 0, cells := 0, slots := 0, locals := 0 } : Room).slots) := by
  refine MetFree.of_bodySF (plainFor_of_name pn_0) hisR ?_
  intro p e s m args below meth c s₁ Bd hml0 hP hK
  obtain ⟨rfl, hZ, hh⟩ := hP
  have hx := Bd.exec
  have hby := Bd.bytes
  have hml : c.maxLocals = 2 := hml0
  have hown : s.vm.findClass "com/example/hertzbid/hertzbid/ConflictPairs" = some m.cls := findClass_of_methodNamed Bd.named
  have hnm := (name_of_methodNamed Bd.named Bd.method).1
  have X0 : Stand p l e ({ frames := 0, cells := 0, slots := 0, locals := 0 } : Room) s m #[(.long q1)] below meth c s₁ [] 0 0 := Stand.of_body Bd
  have e0 : s₁.heap = h0 := by rw [← hh, Bd.state]; rfl
  have N0 := Fr.nil n0
  refine Go.done (Go.step (fun t k => castTop (ef_4 m q1) k) ?_)
  show Go p e below _ (s₁.setTop (mkF m 0 #[.val (.long q1), .second] []))
  refine Go.step (fun t k => XS.lloadN X0.here hx rfl (hb hby d4_0) rfl k) ?_
  show Go p e below _ (s₁.setTop (mkF m 1 #[.val (.long q1), .second] [(.long q1)]))
  refine Go.step (fun t k => XS.bipush X0.here hx rfl (hb hby d4_1)  k) ?_
  show Go p e below _ (s₁.setTop (mkF m 3 #[.val (.long q1), .second] [(.int (32 : Int32)), (.long q1)]))
  refine Go.step (fun t k => XS.lushr X0.here hx rfl (hb hby d4_3) rfl k) ?_
  show Go p e below _ (s₁.setTop (mkF m 4 #[.val (.long q1), .second] [(.long ((q1.toUInt64 >>> ((32 : Int32) &&& 0x3f).toInt64.toUInt64).toInt64))]))
  refine Go.step (fun t k => XS.l2i X0.here hx rfl (hb hby d4_4) rfl k) ?_
  show Go p e below _ (s₁.setTop (mkF m 5 #[.val (.long q1), .second] [(.int (((q1.toUInt64 >>> ((32 : Int32) &&& 0x3f).toInt64.toUInt64).toInt64).toInt32))]))
  exact retGI X0 hx Bd.notSynchronized Bd.returns (hb hby d4_5) ⟨by first | rfl | (simp only [f4]; done) | (simp [f4]; done), N0, e0⟩ (by decide) (by decide)
theorem d5_0 : decode prog_18_method_4_code 0 = .ok (.lload_n 0, 1) := by decide +kernel
theorem d5_1 : decode prog_18_method_4_code 1 = .ok (.l2i, 1) := by decide +kernel
theorem d5_2 : decode prog_18_method_4_code 2 = .ok (.ireturn, 1) := by decide +kernel
theorem ef_5 (m : MethodId) (q1 : Int64) : entryFrame m #[(.long q1)] 2 = mkF m 0 #[.val (.long q1), .second] [] := by first | (simp [entryFrame, mkF, argsToLocals, Value.category]; done) | rfl
def f5 (q1 : Int64) : Int32 := (q1.toInt32)
set_option maxRecDepth 65536 in
set_option maxHeartbeats 40000000 in
theorem rm5 (l : Launch) (Z : State) (a0 : Array Value) (hw : ∀ d ∈ tables_1, d.before a0 Z = true) (ws : List Jvm.Cond) (q1 : Int64) (h0 : Heap) (n0 : Nat) (Z0 : n0 ≤ h0.size) :
    MetFree l (⟨"com/example/hertzbid/hertzbid/ConflictPairs", "second", "(J)I"⟩ : MethodName) (head1 (Jvm.Cond.code (⟨"com/example/hertzbid/hertzbid/ConflictPairs", "second", "(J)I"⟩ : MethodName) prog_18_method_4_code 2 (some .int) :: ws) ({ frames := 0, cells := 0, slots := 0, locals := 0 } : Room)) (fun a U => a = #[(.long q1)] ∧ Z.Warmed39 U.vm ∧ U.heap = h0) (fun _ _ _ _ _ => True) (fun _ U o U' => ∃ v L, o = .returned v ∧ QP (.int (f5 q1)) h0 n0 v U'.heap L ∧ FrameEnd U o U' L ({ frames := 0, cells := 0, slots := 0, locals := 0 } : Room).cells ({ frames := 0, cells := 0, slots := 0, locals := 0 } : Room).slots) := by
  refine MetFree.of_bodySF (plainFor_of_name pn_0) hisR ?_
  intro p e s m args below meth c s₁ Bd hml0 hP hK
  obtain ⟨rfl, hZ, hh⟩ := hP
  have hx := Bd.exec
  have hby := Bd.bytes
  have hml : c.maxLocals = 2 := hml0
  have hown : s.vm.findClass "com/example/hertzbid/hertzbid/ConflictPairs" = some m.cls := findClass_of_methodNamed Bd.named
  have hnm := (name_of_methodNamed Bd.named Bd.method).1
  have X0 : Stand p l e ({ frames := 0, cells := 0, slots := 0, locals := 0 } : Room) s m #[(.long q1)] below meth c s₁ [] 0 0 := Stand.of_body Bd
  have e0 : s₁.heap = h0 := by rw [← hh, Bd.state]; rfl
  have N0 := Fr.nil n0
  refine Go.done (Go.step (fun t k => castTop (ef_5 m q1) k) ?_)
  show Go p e below _ (s₁.setTop (mkF m 0 #[.val (.long q1), .second] []))
  refine Go.step (fun t k => XS.lloadN X0.here hx rfl (hb hby d5_0) rfl k) ?_
  show Go p e below _ (s₁.setTop (mkF m 1 #[.val (.long q1), .second] [(.long q1)]))
  refine Go.step (fun t k => XS.l2i X0.here hx rfl (hb hby d5_1) rfl k) ?_
  show Go p e below _ (s₁.setTop (mkF m 2 #[.val (.long q1), .second] [(.int (q1.toInt32))]))
  exact retGI X0 hx Bd.notSynchronized Bd.returns (hb hby d5_2) ⟨by first | rfl | (simp only [f5]; done) | (simp [f5]; done), N0, e0⟩ (by decide) (by decide)
theorem pd_1 : parseMethodDescriptor "(II)J" = some ⟨[.int, .int], some .long⟩ := by decide +kernel
theorem pd_2 : parseMethodDescriptor "(J)I" = some ⟨[.long], some .int⟩ := by decide +kernel
theorem ef_0 (m : MethodId) (p1 : Int32) (p2 : Int32) (p3 : Int32) (p4 : Int32) : entryFrame m #[(.int p1), (.int p2), (.int p3), (.int p4)] maxLocals = mkF m 0 #[.val (.int p1), .val (.int p2), .val (.int p3), .val (.int p4), .unset, .unset, .unset, .unset, .unset, .unset, .unset, .unset, .unset, .unset, .unset, .unset, .unset, .unset, .unset, .unset, .unset, .unset, .unset] [] := by first | (simp [entryFrame, mkF, argsToLocals, Value.category, maxLocals]; done) | rfl
theorem pn_1 : plainName "com/example/hertzbid/hertzbid/ConflictPairsOfPinLaw" = true := by first | (simp [plainName, overriddenIn]; done) | decide +kernel
def f0 (p1 : Int32) (p2 : Int32) (p3 : Int32) (p4 : Int32) : Int32 := (if (if (f1 (p1 &&& (2147483647 : Int32)) (p2 &&& (2147483647 : Int32))) = ((((if (p1 &&& (2147483647 : Int32)) < (p2 &&& (2147483647 : Int32)) then (p1 &&& (2147483647 : Int32)) else (p2 &&& (2147483647 : Int32))).toInt64) * (4294967296 : Int64)) + ((if (p1 &&& (2147483647 : Int32)) < (p2 &&& (2147483647 : Int32)) then (p2 &&& (2147483647 : Int32)) else (p1 &&& (2147483647 : Int32))).toInt64)) then (1 : Int32) else (0 : Int32)) = (0 : Int32) then (0 : Int32) else (if (if (f1 (p1 &&& (2147483647 : Int32)) (p2 &&& (2147483647 : Int32))) = (f1 (p2 &&& (2147483647 : Int32)) (p1 &&& (2147483647 : Int32))) then (1 : Int32) else (0 : Int32)) = (0 : Int32) then (0 : Int32) else (if (if (f4 (f1 (p1 &&& (2147483647 : Int32)) (p2 &&& (2147483647 : Int32)))) = (if (p1 &&& (2147483647 : Int32)) < (p2 &&& (2147483647 : Int32)) then (p1 &&& (2147483647 : Int32)) else (p2 &&& (2147483647 : Int32))) then (if (f5 (f1 (p1 &&& (2147483647 : Int32)) (p2 &&& (2147483647 : Int32)))) = (if (p1 &&& (2147483647 : Int32)) < (p2 &&& (2147483647 : Int32)) then (p2 &&& (2147483647 : Int32)) else (p1 &&& (2147483647 : Int32))) then (1 : Int32) else (0 : Int32)) else (0 : Int32)) = (0 : Int32) then (0 : Int32) else (if (if (if (f1 (p1 &&& (2147483647 : Int32)) (p2 &&& (2147483647 : Int32))) < (f1 (p3 &&& (2147483647 : Int32)) (p4 &&& (2147483647 : Int32))) then (1 : Int32) else (0 : Int32)) = (if (if (p1 &&& (2147483647 : Int32)) < (p2 &&& (2147483647 : Int32)) then (p1 &&& (2147483647 : Int32)) else (p2 &&& (2147483647 : Int32))) < (if (p3 &&& (2147483647 : Int32)) < (p4 &&& (2147483647 : Int32)) then (p3 &&& (2147483647 : Int32)) else (p4 &&& (2147483647 : Int32))) then (1 : Int32) else (if (if (p1 &&& (2147483647 : Int32)) < (p2 &&& (2147483647 : Int32)) then (p1 &&& (2147483647 : Int32)) else (p2 &&& (2147483647 : Int32))) = (if (p3 &&& (2147483647 : Int32)) < (p4 &&& (2147483647 : Int32)) then (p3 &&& (2147483647 : Int32)) else (p4 &&& (2147483647 : Int32))) then (if (if (p1 &&& (2147483647 : Int32)) < (p2 &&& (2147483647 : Int32)) then (p2 &&& (2147483647 : Int32)) else (p1 &&& (2147483647 : Int32))) < (if (p3 &&& (2147483647 : Int32)) < (p4 &&& (2147483647 : Int32)) then (p4 &&& (2147483647 : Int32)) else (p3 &&& (2147483647 : Int32))) then (1 : Int32) else (0 : Int32)) else (0 : Int32))) then (1 : Int32) else (0 : Int32)) = (0 : Int32) then (0 : Int32) else (1 : Int32)))))
set_option maxRecDepth 65536 in
set_option maxHeartbeats 40000000 in
theorem rm0 (l : Launch) (Z : State) (a0 : Array Value) (hw : ∀ d ∈ tables_1, d.before a0 Z = true) (ws : List Jvm.Cond) (p1 : Int32) (p2 : Int32) (p3 : Int32) (p4 : Int32) (h0 : Heap) (n0 : Nat) (Z0 : n0 ≤ h0.size) :
    MetFree l x (head1 (Jvm.Cond.code x code maxLocals ret :: ws) room_1) (fun a U => a = #[(.int p1), (.int p2), (.int p3), (.int p4)] ∧ Z.Warmed39 U.vm ∧ U.heap = h0) (fun _ _ _ _ _ => True) (fun _ U o U' => ∃ v L, o = .returned v ∧ QP (.int (f0 p1 p2 p3 p4)) h0 n0 v U'.heap L ∧ FrameEnd U o U' L room_1.cells room_1.slots) := by
  refine MetFree.of_bodySF (plainFor_of_name pn_1) hisR ?_
  intro p e s m args below meth c s₁ Bd hml0 hP hK
  obtain ⟨rfl, hZ, hh⟩ := hP
  have hx := Bd.exec
  have hby := Bd.bytes
  have hml : c.maxLocals = 23 := hml0
  have hown : s.vm.findClass "com/example/hertzbid/hertzbid/ConflictPairsOfPinLaw" = some m.cls := findClass_of_methodNamed Bd.named
  have hnm := (name_of_methodNamed Bd.named Bd.method).1
  have X0 : Stand p l e room_1 s m #[(.int p1), (.int p2), (.int p3), (.int p4)] below meth c s₁ [] 0 0 := Stand.of_body Bd
  have e0 : s₁.heap = h0 := by rw [← hh, Bd.state]; rfl
  have N0 := Fr.nil n0
  refine Go.done (Go.step (fun t k => castTop (ef_0 m p1 p2 p3 p4) k) ?_)
  show Go p e below _ (s₁.setTop (mkF m 0 #[.val (.int p1), .val (.int p2), .val (.int p3), .val (.int p4), .unset, .unset, .unset, .unset, .unset, .unset, .unset, .unset, .unset, .unset, .unset, .unset, .unset, .unset, .unset, .unset, .unset, .unset, .unset] []))
  refine Go.step (fun t k => XS.iloadN X0.here hx rfl (hb hby at_0) rfl k) ?_
  show Go p e below _ (s₁.setTop (mkF m 1 #[.val (.int p1), .val (.int p2), .val (.int p3), .val (.int p4), .unset, .unset, .unset, .unset, .unset, .unset, .unset, .unset, .unset, .unset, .unset, .unset, .unset, .unset, .unset, .unset, .unset, .unset, .unset] [(.int p1)]))
  refine Go.step (X0.ldcInt hx hown (mvT hZ (hw _ (List.mem_of_getElem? (i := 0) rfl))) (g := (mkF m 1 #[.val (.int p1), .val (.int p2), .val (.int p3), .val (.int p4), .unset, .unset, .unset, .unset, .unset, .unset, .unset, .unset, .unset, .unset, .unset, .unset, .unset, .unset, .unset, .unset, .unset, .unset, .unset] [(.int p1)])) rfl (hb hby at_1)) ?_
  show Go p e below _ (s₁.setTop (mkF m 3 #[.val (.int p1), .val (.int p2), .val (.int p3), .val (.int p4), .unset, .unset, .unset, .unset, .unset, .unset, .unset, .unset, .unset, .unset, .unset, .unset, .unset, .unset, .unset, .unset, .unset, .unset, .unset] [(.int (2147483647 : Int32)), (.int p1)]))
  refine Go.step (fun t k => XS.iand X0.here hx rfl (hb hby at_3) rfl k) ?_
  show Go p e below _ (s₁.setTop (mkF m 4 #[.val (.int p1), .val (.int p2), .val (.int p3), .val (.int p4), .unset, .unset, .unset, .unset, .unset, .unset, .unset, .unset, .unset, .unset, .unset, .unset, .unset, .unset, .unset, .unset, .unset, .unset, .unset] [(.int (p1 &&& (2147483647 : Int32)))]))
  obtain ⟨v5, hv5⟩ : ∃ z : Int32, z = (p1 &&& (2147483647 : Int32)) := ⟨_, rfl⟩
  rw [← hv5]
  show Go p e below _ (s₁.setTop (mkF m 4 #[.val (.int p1), .val (.int p2), .val (.int p3), .val (.int p4), .unset, .unset, .unset, .unset, .unset, .unset, .unset, .unset, .unset, .unset, .unset, .unset, .unset, .unset, .unset, .unset, .unset, .unset, .unset] [(.int v5)]))
  refine Go.step (fun t k => XS.istore X0.here hx rfl (hb hby at_4) rfl (l' := #[.val (.int p1), .val (.int p2), .val (.int p3), .val (.int p4), .val (.int v5), .unset, .unset, .unset, .unset, .unset, .unset, .unset, .unset, .unset, .unset, .unset, .unset, .unset, .unset, .unset, .unset, .unset, .unset]) rfl k) ?_
  show Go p e below _ (s₁.setTop (mkF m 6 #[.val (.int p1), .val (.int p2), .val (.int p3), .val (.int p4), .val (.int v5), .unset, .unset, .unset, .unset, .unset, .unset, .unset, .unset, .unset, .unset, .unset, .unset, .unset, .unset, .unset, .unset, .unset, .unset] []))
  refine Go.step (fun t k => XS.iloadN X0.here hx rfl (hb hby at_6) rfl k) ?_
  show Go p e below _ (s₁.setTop (mkF m 7 #[.val (.int p1), .val (.int p2), .val (.int p3), .val (.int p4), .val (.int v5), .unset, .unset, .unset, .unset, .unset, .unset, .unset, .unset, .unset, .unset, .unset, .unset, .unset, .unset, .unset, .unset, .unset, .unset] [(.int p2)]))
  refine Go.step (X0.ldcInt hx hown (mvT hZ (hw _ (List.mem_of_getElem? (i := 0) rfl))) (g := (mkF m 7 #[.val (.int p1), .val (.int p2), .val (.int p3), .val (.int p4), .val (.int v5), .unset, .unset, .unset, .unset, .unset, .unset, .unset, .unset, .unset, .unset, .unset, .unset, .unset, .unset, .unset, .unset, .unset, .unset] [(.int p2)])) rfl (hb hby at_7)) ?_
  show Go p e below _ (s₁.setTop (mkF m 9 #[.val (.int p1), .val (.int p2), .val (.int p3), .val (.int p4), .val (.int v5), .unset, .unset, .unset, .unset, .unset, .unset, .unset, .unset, .unset, .unset, .unset, .unset, .unset, .unset, .unset, .unset, .unset, .unset] [(.int (2147483647 : Int32)), (.int p2)]))
  refine Go.step (fun t k => XS.iand X0.here hx rfl (hb hby at_9) rfl k) ?_
  show Go p e below _ (s₁.setTop (mkF m 10 #[.val (.int p1), .val (.int p2), .val (.int p3), .val (.int p4), .val (.int v5), .unset, .unset, .unset, .unset, .unset, .unset, .unset, .unset, .unset, .unset, .unset, .unset, .unset, .unset, .unset, .unset, .unset, .unset] [(.int (p2 &&& (2147483647 : Int32)))]))
  obtain ⟨v6, hv6⟩ : ∃ z : Int32, z = (p2 &&& (2147483647 : Int32)) := ⟨_, rfl⟩
  rw [← hv6]
  show Go p e below _ (s₁.setTop (mkF m 10 #[.val (.int p1), .val (.int p2), .val (.int p3), .val (.int p4), .val (.int v5), .unset, .unset, .unset, .unset, .unset, .unset, .unset, .unset, .unset, .unset, .unset, .unset, .unset, .unset, .unset, .unset, .unset, .unset] [(.int v6)]))
  refine Go.step (fun t k => XS.istore X0.here hx rfl (hb hby at_10) rfl (l' := #[.val (.int p1), .val (.int p2), .val (.int p3), .val (.int p4), .val (.int v5), .val (.int v6), .unset, .unset, .unset, .unset, .unset, .unset, .unset, .unset, .unset, .unset, .unset, .unset, .unset, .unset, .unset, .unset, .unset]) rfl k) ?_
  show Go p e below _ (s₁.setTop (mkF m 12 #[.val (.int p1), .val (.int p2), .val (.int p3), .val (.int p4), .val (.int v5), .val (.int v6), .unset, .unset, .unset, .unset, .unset, .unset, .unset, .unset, .unset, .unset, .unset, .unset, .unset, .unset, .unset, .unset, .unset] []))
  refine Go.step (fun t k => XS.iloadN X0.here hx rfl (hb hby at_12) rfl k) ?_
  show Go p e below _ (s₁.setTop (mkF m 13 #[.val (.int p1), .val (.int p2), .val (.int p3), .val (.int p4), .val (.int v5), .val (.int v6), .unset, .unset, .unset, .unset, .unset, .unset, .unset, .unset, .unset, .unset, .unset, .unset, .unset, .unset, .unset, .unset, .unset] [(.int p3)]))
  refine Go.step (X0.ldcInt hx hown (mvT hZ (hw _ (List.mem_of_getElem? (i := 0) rfl))) (g := (mkF m 13 #[.val (.int p1), .val (.int p2), .val (.int p3), .val (.int p4), .val (.int v5), .val (.int v6), .unset, .unset, .unset, .unset, .unset, .unset, .unset, .unset, .unset, .unset, .unset, .unset, .unset, .unset, .unset, .unset, .unset] [(.int p3)])) rfl (hb hby at_13)) ?_
  show Go p e below _ (s₁.setTop (mkF m 15 #[.val (.int p1), .val (.int p2), .val (.int p3), .val (.int p4), .val (.int v5), .val (.int v6), .unset, .unset, .unset, .unset, .unset, .unset, .unset, .unset, .unset, .unset, .unset, .unset, .unset, .unset, .unset, .unset, .unset] [(.int (2147483647 : Int32)), (.int p3)]))
  refine Go.step (fun t k => XS.iand X0.here hx rfl (hb hby at_15) rfl k) ?_
  show Go p e below _ (s₁.setTop (mkF m 16 #[.val (.int p1), .val (.int p2), .val (.int p3), .val (.int p4), .val (.int v5), .val (.int v6), .unset, .unset, .unset, .unset, .unset, .unset, .unset, .unset, .unset, .unset, .unset, .unset, .unset, .unset, .unset, .unset, .unset] [(.int (p3 &&& (2147483647 : Int32)))]))
  obtain ⟨v7, hv7⟩ : ∃ z : Int32, z = (p3 &&& (2147483647 : Int32)) := ⟨_, rfl⟩
  rw [← hv7]
  show Go p e below _ (s₁.setTop (mkF m 16 #[.val (.int p1), .val (.int p2), .val (.int p3), .val (.int p4), .val (.int v5), .val (.int v6), .unset, .unset, .unset, .unset, .unset, .unset, .unset, .unset, .unset, .unset, .unset, .unset, .unset, .unset, .unset, .unset, .unset] [(.int v7)]))
  refine Go.step (fun t k => XS.istore X0.here hx rfl (hb hby at_16) rfl (l' := #[.val (.int p1), .val (.int p2), .val (.int p3), .val (.int p4), .val (.int v5), .val (.int v6), .val (.int v7), .unset, .unset, .unset, .unset, .unset, .unset, .unset, .unset, .unset, .unset, .unset, .unset, .unset, .unset, .unset, .unset]) rfl k) ?_
  show Go p e below _ (s₁.setTop (mkF m 18 #[.val (.int p1), .val (.int p2), .val (.int p3), .val (.int p4), .val (.int v5), .val (.int v6), .val (.int v7), .unset, .unset, .unset, .unset, .unset, .unset, .unset, .unset, .unset, .unset, .unset, .unset, .unset, .unset, .unset, .unset] []))
  refine Go.step (fun t k => XS.iloadN X0.here hx rfl (hb hby at_18) rfl k) ?_
  show Go p e below _ (s₁.setTop (mkF m 19 #[.val (.int p1), .val (.int p2), .val (.int p3), .val (.int p4), .val (.int v5), .val (.int v6), .val (.int v7), .unset, .unset, .unset, .unset, .unset, .unset, .unset, .unset, .unset, .unset, .unset, .unset, .unset, .unset, .unset, .unset] [(.int p4)]))
  refine Go.step (X0.ldcInt hx hown (mvT hZ (hw _ (List.mem_of_getElem? (i := 0) rfl))) (g := (mkF m 19 #[.val (.int p1), .val (.int p2), .val (.int p3), .val (.int p4), .val (.int v5), .val (.int v6), .val (.int v7), .unset, .unset, .unset, .unset, .unset, .unset, .unset, .unset, .unset, .unset, .unset, .unset, .unset, .unset, .unset, .unset] [(.int p4)])) rfl (hb hby at_19)) ?_
  show Go p e below _ (s₁.setTop (mkF m 21 #[.val (.int p1), .val (.int p2), .val (.int p3), .val (.int p4), .val (.int v5), .val (.int v6), .val (.int v7), .unset, .unset, .unset, .unset, .unset, .unset, .unset, .unset, .unset, .unset, .unset, .unset, .unset, .unset, .unset, .unset] [(.int (2147483647 : Int32)), (.int p4)]))
  refine Go.step (fun t k => XS.iand X0.here hx rfl (hb hby at_21) rfl k) ?_
  show Go p e below _ (s₁.setTop (mkF m 22 #[.val (.int p1), .val (.int p2), .val (.int p3), .val (.int p4), .val (.int v5), .val (.int v6), .val (.int v7), .unset, .unset, .unset, .unset, .unset, .unset, .unset, .unset, .unset, .unset, .unset, .unset, .unset, .unset, .unset, .unset] [(.int (p4 &&& (2147483647 : Int32)))]))
  obtain ⟨v8, hv8⟩ : ∃ z : Int32, z = (p4 &&& (2147483647 : Int32)) := ⟨_, rfl⟩
  rw [← hv8]
  show Go p e below _ (s₁.setTop (mkF m 22 #[.val (.int p1), .val (.int p2), .val (.int p3), .val (.int p4), .val (.int v5), .val (.int v6), .val (.int v7), .unset, .unset, .unset, .unset, .unset, .unset, .unset, .unset, .unset, .unset, .unset, .unset, .unset, .unset, .unset, .unset] [(.int v8)]))
  refine Go.step (fun t k => XS.istore X0.here hx rfl (hb hby at_22) rfl (l' := #[.val (.int p1), .val (.int p2), .val (.int p3), .val (.int p4), .val (.int v5), .val (.int v6), .val (.int v7), .val (.int v8), .unset, .unset, .unset, .unset, .unset, .unset, .unset, .unset, .unset, .unset, .unset, .unset, .unset, .unset, .unset]) rfl k) ?_
  show Go p e below _ (s₁.setTop (mkF m 24 #[.val (.int p1), .val (.int p2), .val (.int p3), .val (.int p4), .val (.int v5), .val (.int v6), .val (.int v7), .val (.int v8), .unset, .unset, .unset, .unset, .unset, .unset, .unset, .unset, .unset, .unset, .unset, .unset, .unset, .unset, .unset] []))
  refine Go.step (fun t k => XS.iload X0.here hx rfl (hb hby at_24) rfl k) ?_
  show Go p e below _ (s₁.setTop (mkF m 26 #[.val (.int p1), .val (.int p2), .val (.int p3), .val (.int p4), .val (.int v5), .val (.int v6), .val (.int v7), .val (.int v8), .unset, .unset, .unset, .unset, .unset, .unset, .unset, .unset, .unset, .unset, .unset, .unset, .unset, .unset, .unset] [(.int v5)]))
  refine Go.step (fun t k => XS.iload X0.here hx rfl (hb hby at_26) rfl k) ?_
  show Go p e below _ (s₁.setTop (mkF m 28 #[.val (.int p1), .val (.int p2), .val (.int p3), .val (.int p4), .val (.int v5), .val (.int v6), .val (.int v7), .val (.int v8), .unset, .unset, .unset, .unset, .unset, .unset, .unset, .unset, .unset, .unset, .unset, .unset, .unset, .unset, .unset] [(.int v6), (.int v5)]))
  obtain ⟨_, _, ⟨T9, L9, k9, n9⟩, -, X9, ⟨Lc9, hQ9, l9, y9, z9⟩, st9⟩ := Jvm.LawKit.callS X0 hx (y := (⟨"com/example/hertzbid/hertzbid/ConflictPairs", "of", "(II)J"⟩ : MethodName)) hown (mvT hZ (hw _ (List.mem_of_getElem? (i := 1) rfl))) (mvT hZ (hw _ (List.mem_of_getElem? (i := 2) rfl))) (mvT hZ (hw _ (List.mem_of_getElem? (i := 3) rfl))) (mvT hZ (hw _ (List.mem_of_getElem? (i := 4) rfl))) (by decide) (backOf (W := 0) (rm1 l Z a0 hw [] v5 v6 h0 n0 Z0) hZ (hw _ (List.mem_of_getElem? (i := 4) rfl)) (hw _ (List.mem_of_getElem? (i := 3) rfl)) (by decide) (by decide)) (g := (mkF m 28 #[.val (.int p1), .val (.int p2), .val (.int p3), .val (.int p4), .val (.int v5), .val (.int v6), .val (.int v7), .val (.int v8), .unset, .unset, .unset, .unset, .unset, .unset, .unset, .unset, .unset, .unset, .unset, .unset, .unset, .unset, .unset] [(.int v6), (.int v5)])) rfl (by rw [hml]; rfl) (argsL := [(.int v5), (.int v6)]) (rest := []) (lenOf pd_1 rfl) rfl (by show 2 * 0 + _ ≤ _; exact Nat.le_of_eq rfl) (hb hby at_28) (fun _ _ => ⟨rfl, e0, (by decide : 0 + 0 ≤ _), (by decide : 0 + 0 ≤ _)⟩)
  dsimp only [Pt.U, Pt.locs, Pt.cells, Pt.slots] at X9 l9 y9 z9 st9 hQ9
  subst l9 y9 z9
  obtain ⟨rfl, N9q, e9⟩ := hQ9
  have N9 := Fr.app N0 N9q
  refine Go.step st9 ?_
  show Go p e below _ (T9.setTop (mkF m 31 #[.val (.int p1), .val (.int p2), .val (.int p3), .val (.int p4), .val (.int v5), .val (.int v6), .val (.int v7), .val (.int v8), .unset, .unset, .unset, .unset, .unset, .unset, .unset, .unset, .unset, .unset, .unset, .unset, .unset, .unset, .unset] [(.long (f1 v5 v6))]))
  refine Go.step (fun t k => XS.lstore X9.here hx rfl (hb hby at_31) rfl (l' := #[.val (.int p1), .val (.int p2), .val (.int p3), .val (.int p4), .val (.int v5), .val (.int v6), .val (.int v7), .val (.int v8), .val (.long (f1 v5 v6)), .second, .unset, .unset, .unset, .unset, .unset, .unset, .unset, .unset, .unset, .unset, .unset, .unset, .unset]) rfl k) ?_
  show Go p e below _ (T9.setTop (mkF m 33 #[.val (.int p1), .val (.int p2), .val (.int p3), .val (.int p4), .val (.int v5), .val (.int v6), .val (.int v7), .val (.int v8), .val (.long (f1 v5 v6)), .second, .unset, .unset, .unset, .unset, .unset, .unset, .unset, .unset, .unset, .unset, .unset, .unset, .unset] []))
  refine Go.step (fun t k => XS.iload X9.here hx rfl (hb hby at_33) rfl k) ?_
  show Go p e below _ (T9.setTop (mkF m 35 #[.val (.int p1), .val (.int p2), .val (.int p3), .val (.int p4), .val (.int v5), .val (.int v6), .val (.int v7), .val (.int v8), .val (.long (f1 v5 v6)), .second, .unset, .unset, .unset, .unset, .unset, .unset, .unset, .unset, .unset, .unset, .unset, .unset, .unset] [(.int v6)]))
  refine Go.step (fun t k => XS.iload X9.here hx rfl (hb hby at_35) rfl k) ?_
  show Go p e below _ (T9.setTop (mkF m 37 #[.val (.int p1), .val (.int p2), .val (.int p3), .val (.int p4), .val (.int v5), .val (.int v6), .val (.int v7), .val (.int v8), .val (.long (f1 v5 v6)), .second, .unset, .unset, .unset, .unset, .unset, .unset, .unset, .unset, .unset, .unset, .unset, .unset, .unset] [(.int v5), (.int v6)]))
  obtain ⟨_, _, ⟨T10, L10, k10, n10⟩, -, X10, ⟨Lc10, hQ10, l10, y10, z10⟩, st10⟩ := Jvm.LawKit.callS X9 hx (y := (⟨"com/example/hertzbid/hertzbid/ConflictPairs", "of", "(II)J"⟩ : MethodName)) hown (mvT hZ (hw _ (List.mem_of_getElem? (i := 1) rfl))) (mvT hZ (hw _ (List.mem_of_getElem? (i := 2) rfl))) (mvT hZ (hw _ (List.mem_of_getElem? (i := 3) rfl))) (mvT hZ (hw _ (List.mem_of_getElem? (i := 4) rfl))) (by decide) (backOf (W := 0) (rm1 l Z a0 hw [] v6 v5 h0 n0 Z0) hZ (hw _ (List.mem_of_getElem? (i := 4) rfl)) (hw _ (List.mem_of_getElem? (i := 3) rfl)) (by decide) (by decide)) (g := (mkF m 37 #[.val (.int p1), .val (.int p2), .val (.int p3), .val (.int p4), .val (.int v5), .val (.int v6), .val (.int v7), .val (.int v8), .val (.long (f1 v5 v6)), .second, .unset, .unset, .unset, .unset, .unset, .unset, .unset, .unset, .unset, .unset, .unset, .unset, .unset] [(.int v5), (.int v6)])) rfl (by rw [hml]; rfl) (argsL := [(.int v6), (.int v5)]) (rest := []) (lenOf pd_1 rfl) rfl (by show 2 * 0 + _ ≤ _; exact Nat.le_of_eq rfl) (hb hby at_37) (fun _ _ => ⟨rfl, e9, (by decide : 0 + 0 ≤ _), (by decide : 0 + 0 ≤ _)⟩)
  dsimp only [Pt.U, Pt.locs, Pt.cells, Pt.slots] at X10 l10 y10 z10 st10 hQ10
  subst l10 y10 z10
  obtain ⟨rfl, N10q, e10⟩ := hQ10
  have N10 := Fr.app N9 N10q
  refine Go.step st10 ?_
  show Go p e below _ (T10.setTop (mkF m 40 #[.val (.int p1), .val (.int p2), .val (.int p3), .val (.int p4), .val (.int v5), .val (.int v6), .val (.int v7), .val (.int v8), .val (.long (f1 v5 v6)), .second, .unset, .unset, .unset, .unset, .unset, .unset, .unset, .unset, .unset, .unset, .unset, .unset, .unset] [(.long (f1 v6 v5))]))
  refine Go.step (fun t k => XS.lstore X10.here hx rfl (hb hby at_40) rfl (l' := #[.val (.int p1), .val (.int p2), .val (.int p3), .val (.int p4), .val (.int v5), .val (.int v6), .val (.int v7), .val (.int v8), .val (.long (f1 v5 v6)), .second, .val (.long (f1 v6 v5)), .second, .unset, .unset, .unset, .unset, .unset, .unset, .unset, .unset, .unset, .unset, .unset]) rfl k) ?_
  show Go p e below _ (T10.setTop (mkF m 42 #[.val (.int p1), .val (.int p2), .val (.int p3), .val (.int p4), .val (.int v5), .val (.int v6), .val (.int v7), .val (.int v8), .val (.long (f1 v5 v6)), .second, .val (.long (f1 v6 v5)), .second, .unset, .unset, .unset, .unset, .unset, .unset, .unset, .unset, .unset, .unset, .unset] []))
  refine Go.step (fun t k => XS.iload X10.here hx rfl (hb hby at_42) rfl k) ?_
  show Go p e below _ (T10.setTop (mkF m 44 #[.val (.int p1), .val (.int p2), .val (.int p3), .val (.int p4), .val (.int v5), .val (.int v6), .val (.int v7), .val (.int v8), .val (.long (f1 v5 v6)), .second, .val (.long (f1 v6 v5)), .second, .unset, .unset, .unset, .unset, .unset, .unset, .unset, .unset, .unset, .unset, .unset] [(.int v7)]))
  refine Go.step (fun t k => XS.iload X10.here hx rfl (hb hby at_44) rfl k) ?_
  show Go p e below _ (T10.setTop (mkF m 46 #[.val (.int p1), .val (.int p2), .val (.int p3), .val (.int p4), .val (.int v5), .val (.int v6), .val (.int v7), .val (.int v8), .val (.long (f1 v5 v6)), .second, .val (.long (f1 v6 v5)), .second, .unset, .unset, .unset, .unset, .unset, .unset, .unset, .unset, .unset, .unset, .unset] [(.int v8), (.int v7)]))
  obtain ⟨_, _, ⟨T11, L11, k11, n11⟩, -, X11, ⟨Lc11, hQ11, l11, y11, z11⟩, st11⟩ := Jvm.LawKit.callS X10 hx (y := (⟨"com/example/hertzbid/hertzbid/ConflictPairs", "of", "(II)J"⟩ : MethodName)) hown (mvT hZ (hw _ (List.mem_of_getElem? (i := 1) rfl))) (mvT hZ (hw _ (List.mem_of_getElem? (i := 2) rfl))) (mvT hZ (hw _ (List.mem_of_getElem? (i := 3) rfl))) (mvT hZ (hw _ (List.mem_of_getElem? (i := 4) rfl))) (by decide) (backOf (W := 0) (rm1 l Z a0 hw [] v7 v8 h0 n0 Z0) hZ (hw _ (List.mem_of_getElem? (i := 4) rfl)) (hw _ (List.mem_of_getElem? (i := 3) rfl)) (by decide) (by decide)) (g := (mkF m 46 #[.val (.int p1), .val (.int p2), .val (.int p3), .val (.int p4), .val (.int v5), .val (.int v6), .val (.int v7), .val (.int v8), .val (.long (f1 v5 v6)), .second, .val (.long (f1 v6 v5)), .second, .unset, .unset, .unset, .unset, .unset, .unset, .unset, .unset, .unset, .unset, .unset] [(.int v8), (.int v7)])) rfl (by rw [hml]; rfl) (argsL := [(.int v7), (.int v8)]) (rest := []) (lenOf pd_1 rfl) rfl (by show 2 * 0 + _ ≤ _; exact Nat.le_of_eq rfl) (hb hby at_46) (fun _ _ => ⟨rfl, e10, (by decide : 0 + 0 ≤ _), (by decide : 0 + 0 ≤ _)⟩)
  dsimp only [Pt.U, Pt.locs, Pt.cells, Pt.slots] at X11 l11 y11 z11 st11 hQ11
  subst l11 y11 z11
  obtain ⟨rfl, N11q, e11⟩ := hQ11
  have N11 := Fr.app N10 N11q
  refine Go.step st11 ?_
  show Go p e below _ (T11.setTop (mkF m 49 #[.val (.int p1), .val (.int p2), .val (.int p3), .val (.int p4), .val (.int v5), .val (.int v6), .val (.int v7), .val (.int v8), .val (.long (f1 v5 v6)), .second, .val (.long (f1 v6 v5)), .second, .unset, .unset, .unset, .unset, .unset, .unset, .unset, .unset, .unset, .unset, .unset] [(.long (f1 v7 v8))]))
  refine Go.step (fun t k => XS.lstore X11.here hx rfl (hb hby at_49) rfl (l' := #[.val (.int p1), .val (.int p2), .val (.int p3), .val (.int p4), .val (.int v5), .val (.int v6), .val (.int v7), .val (.int v8), .val (.long (f1 v5 v6)), .second, .val (.long (f1 v6 v5)), .second, .val (.long (f1 v7 v8)), .second, .unset, .unset, .unset, .unset, .unset, .unset, .unset, .unset, .unset]) rfl k) ?_
  show Go p e below _ (T11.setTop (mkF m 51 #[.val (.int p1), .val (.int p2), .val (.int p3), .val (.int p4), .val (.int v5), .val (.int v6), .val (.int v7), .val (.int v8), .val (.long (f1 v5 v6)), .second, .val (.long (f1 v6 v5)), .second, .val (.long (f1 v7 v8)), .second, .unset, .unset, .unset, .unset, .unset, .unset, .unset, .unset, .unset] []))
  refine Go.step (fun t k => XS.iload X11.here hx rfl (hb hby at_51) rfl k) ?_
  show Go p e below _ (T11.setTop (mkF m 53 #[.val (.int p1), .val (.int p2), .val (.int p3), .val (.int p4), .val (.int v5), .val (.int v6), .val (.int v7), .val (.int v8), .val (.long (f1 v5 v6)), .second, .val (.long (f1 v6 v5)), .second, .val (.long (f1 v7 v8)), .second, .unset, .unset, .unset, .unset, .unset, .unset, .unset, .unset, .unset] [(.int v5)]))
  refine Go.step (fun t k => XS.iload X11.here hx rfl (hb hby at_53) rfl k) ?_
  show Go p e below _ (T11.setTop (mkF m 55 #[.val (.int p1), .val (.int p2), .val (.int p3), .val (.int p4), .val (.int v5), .val (.int v6), .val (.int v7), .val (.int v8), .val (.long (f1 v5 v6)), .second, .val (.long (f1 v6 v5)), .second, .val (.long (f1 v7 v8)), .second, .unset, .unset, .unset, .unset, .unset, .unset, .unset, .unset, .unset] [(.int v6), (.int v5)]))
  obtain ⟨v13, hv13⟩ : ∃ z : Int32, z = (if v5 < v6 then v5 else v6) := ⟨_, rfl⟩
  have J55 : Go p e below (AtF p l e room_1 s m #[(.int p1), (.int p2), (.int p3), (.int p4)] below meth c n0 0 0 h0 (mkF m 65 #[.val (.int p1), .val (.int p2), .val (.int p3), .val (.int p4), .val (.int v5), .val (.int v6), .val (.int v7), .val (.int v8), .val (.long (f1 v5 v6)), .second, .val (.long (f1 v6 v5)), .second, .val (.long (f1 v7 v8)), .second, .unset, .unset, .unset, .unset, .unset, .unset, .unset, .unset, .unset] [(.int v13)])) (T11.setTop (mkF m 55 #[.val (.int p1), .val (.int p2), .val (.int p3), .val (.int p4), .val (.int v5), .val (.int v6), .val (.int v7), .val (.int v8), .val (.long (f1 v5 v6)), .second, .val (.long (f1 v6 v5)), .second, .val (.long (f1 v7 v8)), .second, .unset, .unset, .unset, .unset, .unset, .unset, .unset, .unset, .unset] [(.int v6), (.int v5)])) := by
    by_cases hc12 : v5 < v6
    · refine Go.step (fun t k => XS.icmpNo X11.here hx rfl (hb hby at_55) rfl (tlt hc12).2.1 k) ?_
      show Go p e below _ (T11.setTop (mkF m 58 #[.val (.int p1), .val (.int p2), .val (.int p3), .val (.int p4), .val (.int v5), .val (.int v6), .val (.int v7), .val (.int v8), .val (.long (f1 v5 v6)), .second, .val (.long (f1 v6 v5)), .second, .val (.long (f1 v7 v8)), .second, .unset, .unset, .unset, .unset, .unset, .unset, .unset, .unset, .unset] []))
      refine Go.step (fun t k => XS.iload X11.here hx rfl (hb hby at_58) rfl k) ?_
      show Go p e below _ (T11.setTop (mkF m 60 #[.val (.int p1), .val (.int p2), .val (.int p3), .val (.int p4), .val (.int v5), .val (.int v6), .val (.int v7), .val (.int v8), .val (.long (f1 v5 v6)), .second, .val (.long (f1 v6 v5)), .second, .val (.long (f1 v7 v8)), .second, .unset, .unset, .unset, .unset, .unset, .unset, .unset, .unset, .unset] [(.int v5)]))
      refine Go.step (fun t k => XS.goto X11.here hx rfl (pc0 := 60) (pc' := 65) rfl (hb hby at_60) (by decide) (by decide) k) ?_
      show Go p e below _ (T11.setTop (mkF m 65 #[.val (.int p1), .val (.int p2), .val (.int p3), .val (.int p4), .val (.int v5), .val (.int v6), .val (.int v7), .val (.int v8), .val (.long (f1 v5 v6)), .second, .val (.long (f1 v6 v5)), .second, .val (.long (f1 v7 v8)), .second, .unset, .unset, .unset, .unset, .unset, .unset, .unset, .unset, .unset] [(.int v5)]))
      exact Go.here ⟨_, _, by simp only [hv13, if_pos hc12], X11, N11, e11⟩
    · refine Go.step (fun t k => XS.icmpYes X11.here hx rfl (pc0 := 55) (pc' := 63) rfl (hb hby at_55) rfl (flt hc12).2.1 (by decide) (by decide) k) ?_
      show Go p e below _ (T11.setTop (mkF m 63 #[.val (.int p1), .val (.int p2), .val (.int p3), .val (.int p4), .val (.int v5), .val (.int v6), .val (.int v7), .val (.int v8), .val (.long (f1 v5 v6)), .second, .val (.long (f1 v6 v5)), .second, .val (.long (f1 v7 v8)), .second, .unset, .unset, .unset, .unset, .unset, .unset, .unset, .unset, .unset] []))
      refine Go.step (fun t k => XS.iload X11.here hx rfl (hb hby at_63) rfl k) ?_
      show Go p e below _ (T11.setTop (mkF m 65 #[.val (.int p1), .val (.int p2), .val (.int p3), .val (.int p4), .val (.int v5), .val (.int v6), .val (.int v7), .val (.int v8), .val (.long (f1 v5 v6)), .second, .val (.long (f1 v6 v5)), .second, .val (.long (f1 v7 v8)), .second, .unset, .unset, .unset, .unset, .unset, .unset, .unset, .unset, .unset] [(.int v6)]))
      exact Go.here ⟨_, _, by simp only [hv13, if_neg hc12], X11, N11, e11⟩
  obtain ⟨_, st14, T14, Lj14, rfl, X14, N14, e14⟩ := J55
  refine Go.trans st14 ?_
  show Go p e below _ (T14.setTop (mkF m 65 #[.val (.int p1), .val (.int p2), .val (.int p3), .val (.int p4), .val (.int v5), .val (.int v6), .val (.int v7), .val (.int v8), .val (.long (f1 v5 v6)), .second, .val (.long (f1 v6 v5)), .second, .val (.long (f1 v7 v8)), .second, .unset, .unset, .unset, .unset, .unset, .unset, .unset, .unset, .unset] [(.int v13)]))
  refine Go.step (fun t k => XS.istore X14.here hx rfl (hb hby at_65) rfl (l' := #[.val (.int p1), .val (.int p2), .val (.int p3), .val (.int p4), .val (.int v5), .val (.int v6), .val (.int v7), .val (.int v8), .val (.long (f1 v5 v6)), .second, .val (.long (f1 v6 v5)), .second, .val (.long (f1 v7 v8)), .second, .val (.int v13), .unset, .unset, .unset, .unset, .unset, .unset, .unset, .unset]) rfl k) ?_
  show Go p e below _ (T14.setTop (mkF m 67 #[.val (.int p1), .val (.int p2), .val (.int p3), .val (.int p4), .val (.int v5), .val (.int v6), .val (.int v7), .val (.int v8), .val (.long (f1 v5 v6)), .second, .val (.long (f1 v6 v5)), .second, .val (.long (f1 v7 v8)), .second, .val (.int v13), .unset, .unset, .unset, .unset, .unset, .unset, .unset, .unset] []))
  refine Go.step (fun t k => XS.iload X14.here hx rfl (hb hby at_67) rfl k) ?_
  show Go p e below _ (T14.setTop (mkF m 69 #[.val (.int p1), .val (.int p2), .val (.int p3), .val (.int p4), .val (.int v5), .val (.int v6), .val (.int v7), .val (.int v8), .val (.long (f1 v5 v6)), .second, .val (.long (f1 v6 v5)), .second, .val (.long (f1 v7 v8)), .second, .val (.int v13), .unset, .unset, .unset, .unset, .unset, .unset, .unset, .unset] [(.int v5)]))
  refine Go.step (fun t k => XS.iload X14.here hx rfl (hb hby at_69) rfl k) ?_
  show Go p e below _ (T14.setTop (mkF m 71 #[.val (.int p1), .val (.int p2), .val (.int p3), .val (.int p4), .val (.int v5), .val (.int v6), .val (.int v7), .val (.int v8), .val (.long (f1 v5 v6)), .second, .val (.long (f1 v6 v5)), .second, .val (.long (f1 v7 v8)), .second, .val (.int v13), .unset, .unset, .unset, .unset, .unset, .unset, .unset, .unset] [(.int v6), (.int v5)]))
  obtain ⟨v16, hv16⟩ : ∃ z : Int32, z = (if v5 < v6 then v6 else v5) := ⟨_, rfl⟩
  have J71 : Go p e below (AtF p l e room_1 s m #[(.int p1), (.int p2), (.int p3), (.int p4)] below meth c n0 0 0 h0 (mkF m 81 #[.val (.int p1), .val (.int p2), .val (.int p3), .val (.int p4), .val (.int v5), .val (.int v6), .val (.int v7), .val (.int v8), .val (.long (f1 v5 v6)), .second, .val (.long (f1 v6 v5)), .second, .val (.long (f1 v7 v8)), .second, .val (.int v13), .unset, .unset, .unset, .unset, .unset, .unset, .unset, .unset] [(.int v16)])) (T14.setTop (mkF m 71 #[.val (.int p1), .val (.int p2), .val (.int p3), .val (.int p4), .val (.int v5), .val (.int v6), .val (.int v7), .val (.int v8), .val (.long (f1 v5 v6)), .second, .val (.long (f1 v6 v5)), .second, .val (.long (f1 v7 v8)), .second, .val (.int v13), .unset, .unset, .unset, .unset, .unset, .unset, .unset, .unset] [(.int v6), (.int v5)])) := by
    by_cases hc15 : v5 < v6
    · refine Go.step (fun t k => XS.icmpNo X14.here hx rfl (hb hby at_71) rfl (tlt hc15).2.1 k) ?_
      show Go p e below _ (T14.setTop (mkF m 74 #[.val (.int p1), .val (.int p2), .val (.int p3), .val (.int p4), .val (.int v5), .val (.int v6), .val (.int v7), .val (.int v8), .val (.long (f1 v5 v6)), .second, .val (.long (f1 v6 v5)), .second, .val (.long (f1 v7 v8)), .second, .val (.int v13), .unset, .unset, .unset, .unset, .unset, .unset, .unset, .unset] []))
      refine Go.step (fun t k => XS.iload X14.here hx rfl (hb hby at_74) rfl k) ?_
      show Go p e below _ (T14.setTop (mkF m 76 #[.val (.int p1), .val (.int p2), .val (.int p3), .val (.int p4), .val (.int v5), .val (.int v6), .val (.int v7), .val (.int v8), .val (.long (f1 v5 v6)), .second, .val (.long (f1 v6 v5)), .second, .val (.long (f1 v7 v8)), .second, .val (.int v13), .unset, .unset, .unset, .unset, .unset, .unset, .unset, .unset] [(.int v6)]))
      refine Go.step (fun t k => XS.goto X14.here hx rfl (pc0 := 76) (pc' := 81) rfl (hb hby at_76) (by decide) (by decide) k) ?_
      show Go p e below _ (T14.setTop (mkF m 81 #[.val (.int p1), .val (.int p2), .val (.int p3), .val (.int p4), .val (.int v5), .val (.int v6), .val (.int v7), .val (.int v8), .val (.long (f1 v5 v6)), .second, .val (.long (f1 v6 v5)), .second, .val (.long (f1 v7 v8)), .second, .val (.int v13), .unset, .unset, .unset, .unset, .unset, .unset, .unset, .unset] [(.int v6)]))
      exact Go.here ⟨_, _, by simp only [hv16, if_pos hc15], X14, N14, e14⟩
    · refine Go.step (fun t k => XS.icmpYes X14.here hx rfl (pc0 := 71) (pc' := 79) rfl (hb hby at_71) rfl (flt hc15).2.1 (by decide) (by decide) k) ?_
      show Go p e below _ (T14.setTop (mkF m 79 #[.val (.int p1), .val (.int p2), .val (.int p3), .val (.int p4), .val (.int v5), .val (.int v6), .val (.int v7), .val (.int v8), .val (.long (f1 v5 v6)), .second, .val (.long (f1 v6 v5)), .second, .val (.long (f1 v7 v8)), .second, .val (.int v13), .unset, .unset, .unset, .unset, .unset, .unset, .unset, .unset] []))
      refine Go.step (fun t k => XS.iload X14.here hx rfl (hb hby at_79) rfl k) ?_
      show Go p e below _ (T14.setTop (mkF m 81 #[.val (.int p1), .val (.int p2), .val (.int p3), .val (.int p4), .val (.int v5), .val (.int v6), .val (.int v7), .val (.int v8), .val (.long (f1 v5 v6)), .second, .val (.long (f1 v6 v5)), .second, .val (.long (f1 v7 v8)), .second, .val (.int v13), .unset, .unset, .unset, .unset, .unset, .unset, .unset, .unset] [(.int v5)]))
      exact Go.here ⟨_, _, by simp only [hv16, if_neg hc15], X14, N14, e14⟩
  obtain ⟨_, st17, T17, Lj17, rfl, X17, N17, e17⟩ := J71
  refine Go.trans st17 ?_
  show Go p e below _ (T17.setTop (mkF m 81 #[.val (.int p1), .val (.int p2), .val (.int p3), .val (.int p4), .val (.int v5), .val (.int v6), .val (.int v7), .val (.int v8), .val (.long (f1 v5 v6)), .second, .val (.long (f1 v6 v5)), .second, .val (.long (f1 v7 v8)), .second, .val (.int v13), .unset, .unset, .unset, .unset, .unset, .unset, .unset, .unset] [(.int v16)]))
  refine Go.step (fun t k => XS.istore X17.here hx rfl (hb hby at_81) rfl (l' := #[.val (.int p1), .val (.int p2), .val (.int p3), .val (.int p4), .val (.int v5), .val (.int v6), .val (.int v7), .val (.int v8), .val (.long (f1 v5 v6)), .second, .val (.long (f1 v6 v5)), .second, .val (.long (f1 v7 v8)), .second, .val (.int v13), .val (.int v16), .unset, .unset, .unset, .unset, .unset, .unset, .unset]) rfl k) ?_
  show Go p e below _ (T17.setTop (mkF m 83 #[.val (.int p1), .val (.int p2), .val (.int p3), .val (.int p4), .val (.int v5), .val (.int v6), .val (.int v7), .val (.int v8), .val (.long (f1 v5 v6)), .second, .val (.long (f1 v6 v5)), .second, .val (.long (f1 v7 v8)), .second, .val (.int v13), .val (.int v16), .unset, .unset, .unset, .unset, .unset, .unset, .unset] []))
  refine Go.step (fun t k => XS.iload X17.here hx rfl (hb hby at_83) rfl k) ?_
  show Go p e below _ (T17.setTop (mkF m 85 #[.val (.int p1), .val (.int p2), .val (.int p3), .val (.int p4), .val (.int v5), .val (.int v6), .val (.int v7), .val (.int v8), .val (.long (f1 v5 v6)), .second, .val (.long (f1 v6 v5)), .second, .val (.long (f1 v7 v8)), .second, .val (.int v13), .val (.int v16), .unset, .unset, .unset, .unset, .unset, .unset, .unset] [(.int v7)]))
  refine Go.step (fun t k => XS.iload X17.here hx rfl (hb hby at_85) rfl k) ?_
  show Go p e below _ (T17.setTop (mkF m 87 #[.val (.int p1), .val (.int p2), .val (.int p3), .val (.int p4), .val (.int v5), .val (.int v6), .val (.int v7), .val (.int v8), .val (.long (f1 v5 v6)), .second, .val (.long (f1 v6 v5)), .second, .val (.long (f1 v7 v8)), .second, .val (.int v13), .val (.int v16), .unset, .unset, .unset, .unset, .unset, .unset, .unset] [(.int v8), (.int v7)]))
  obtain ⟨v19, hv19⟩ : ∃ z : Int32, z = (if v7 < v8 then v7 else v8) := ⟨_, rfl⟩
  have J87 : Go p e below (AtF p l e room_1 s m #[(.int p1), (.int p2), (.int p3), (.int p4)] below meth c n0 0 0 h0 (mkF m 97 #[.val (.int p1), .val (.int p2), .val (.int p3), .val (.int p4), .val (.int v5), .val (.int v6), .val (.int v7), .val (.int v8), .val (.long (f1 v5 v6)), .second, .val (.long (f1 v6 v5)), .second, .val (.long (f1 v7 v8)), .second, .val (.int v13), .val (.int v16), .unset, .unset, .unset, .unset, .unset, .unset, .unset] [(.int v19)])) (T17.setTop (mkF m 87 #[.val (.int p1), .val (.int p2), .val (.int p3), .val (.int p4), .val (.int v5), .val (.int v6), .val (.int v7), .val (.int v8), .val (.long (f1 v5 v6)), .second, .val (.long (f1 v6 v5)), .second, .val (.long (f1 v7 v8)), .second, .val (.int v13), .val (.int v16), .unset, .unset, .unset, .unset, .unset, .unset, .unset] [(.int v8), (.int v7)])) := by
    by_cases hc18 : v7 < v8
    · refine Go.step (fun t k => XS.icmpNo X17.here hx rfl (hb hby at_87) rfl (tlt hc18).2.1 k) ?_
      show Go p e below _ (T17.setTop (mkF m 90 #[.val (.int p1), .val (.int p2), .val (.int p3), .val (.int p4), .val (.int v5), .val (.int v6), .val (.int v7), .val (.int v8), .val (.long (f1 v5 v6)), .second, .val (.long (f1 v6 v5)), .second, .val (.long (f1 v7 v8)), .second, .val (.int v13), .val (.int v16), .unset, .unset, .unset, .unset, .unset, .unset, .unset] []))
      refine Go.step (fun t k => XS.iload X17.here hx rfl (hb hby at_90) rfl k) ?_
      show Go p e below _ (T17.setTop (mkF m 92 #[.val (.int p1), .val (.int p2), .val (.int p3), .val (.int p4), .val (.int v5), .val (.int v6), .val (.int v7), .val (.int v8), .val (.long (f1 v5 v6)), .second, .val (.long (f1 v6 v5)), .second, .val (.long (f1 v7 v8)), .second, .val (.int v13), .val (.int v16), .unset, .unset, .unset, .unset, .unset, .unset, .unset] [(.int v7)]))
      refine Go.step (fun t k => XS.goto X17.here hx rfl (pc0 := 92) (pc' := 97) rfl (hb hby at_92) (by decide) (by decide) k) ?_
      show Go p e below _ (T17.setTop (mkF m 97 #[.val (.int p1), .val (.int p2), .val (.int p3), .val (.int p4), .val (.int v5), .val (.int v6), .val (.int v7), .val (.int v8), .val (.long (f1 v5 v6)), .second, .val (.long (f1 v6 v5)), .second, .val (.long (f1 v7 v8)), .second, .val (.int v13), .val (.int v16), .unset, .unset, .unset, .unset, .unset, .unset, .unset] [(.int v7)]))
      exact Go.here ⟨_, _, by simp only [hv19, if_pos hc18], X17, N17, e17⟩
    · refine Go.step (fun t k => XS.icmpYes X17.here hx rfl (pc0 := 87) (pc' := 95) rfl (hb hby at_87) rfl (flt hc18).2.1 (by decide) (by decide) k) ?_
      show Go p e below _ (T17.setTop (mkF m 95 #[.val (.int p1), .val (.int p2), .val (.int p3), .val (.int p4), .val (.int v5), .val (.int v6), .val (.int v7), .val (.int v8), .val (.long (f1 v5 v6)), .second, .val (.long (f1 v6 v5)), .second, .val (.long (f1 v7 v8)), .second, .val (.int v13), .val (.int v16), .unset, .unset, .unset, .unset, .unset, .unset, .unset] []))
      refine Go.step (fun t k => XS.iload X17.here hx rfl (hb hby at_95) rfl k) ?_
      show Go p e below _ (T17.setTop (mkF m 97 #[.val (.int p1), .val (.int p2), .val (.int p3), .val (.int p4), .val (.int v5), .val (.int v6), .val (.int v7), .val (.int v8), .val (.long (f1 v5 v6)), .second, .val (.long (f1 v6 v5)), .second, .val (.long (f1 v7 v8)), .second, .val (.int v13), .val (.int v16), .unset, .unset, .unset, .unset, .unset, .unset, .unset] [(.int v8)]))
      exact Go.here ⟨_, _, by simp only [hv19, if_neg hc18], X17, N17, e17⟩
  obtain ⟨_, st20, T20, Lj20, rfl, X20, N20, e20⟩ := J87
  refine Go.trans st20 ?_
  show Go p e below _ (T20.setTop (mkF m 97 #[.val (.int p1), .val (.int p2), .val (.int p3), .val (.int p4), .val (.int v5), .val (.int v6), .val (.int v7), .val (.int v8), .val (.long (f1 v5 v6)), .second, .val (.long (f1 v6 v5)), .second, .val (.long (f1 v7 v8)), .second, .val (.int v13), .val (.int v16), .unset, .unset, .unset, .unset, .unset, .unset, .unset] [(.int v19)]))
  refine Go.step (fun t k => XS.istore X20.here hx rfl (hb hby at_97) rfl (l' := #[.val (.int p1), .val (.int p2), .val (.int p3), .val (.int p4), .val (.int v5), .val (.int v6), .val (.int v7), .val (.int v8), .val (.long (f1 v5 v6)), .second, .val (.long (f1 v6 v5)), .second, .val (.long (f1 v7 v8)), .second, .val (.int v13), .val (.int v16), .val (.int v19), .unset, .unset, .unset, .unset, .unset, .unset]) rfl k) ?_
  show Go p e below _ (T20.setTop (mkF m 99 #[.val (.int p1), .val (.int p2), .val (.int p3), .val (.int p4), .val (.int v5), .val (.int v6), .val (.int v7), .val (.int v8), .val (.long (f1 v5 v6)), .second, .val (.long (f1 v6 v5)), .second, .val (.long (f1 v7 v8)), .second, .val (.int v13), .val (.int v16), .val (.int v19), .unset, .unset, .unset, .unset, .unset, .unset] []))
  refine Go.step (fun t k => XS.iload X20.here hx rfl (hb hby at_99) rfl k) ?_
  show Go p e below _ (T20.setTop (mkF m 101 #[.val (.int p1), .val (.int p2), .val (.int p3), .val (.int p4), .val (.int v5), .val (.int v6), .val (.int v7), .val (.int v8), .val (.long (f1 v5 v6)), .second, .val (.long (f1 v6 v5)), .second, .val (.long (f1 v7 v8)), .second, .val (.int v13), .val (.int v16), .val (.int v19), .unset, .unset, .unset, .unset, .unset, .unset] [(.int v7)]))
  refine Go.step (fun t k => XS.iload X20.here hx rfl (hb hby at_101) rfl k) ?_
  show Go p e below _ (T20.setTop (mkF m 103 #[.val (.int p1), .val (.int p2), .val (.int p3), .val (.int p4), .val (.int v5), .val (.int v6), .val (.int v7), .val (.int v8), .val (.long (f1 v5 v6)), .second, .val (.long (f1 v6 v5)), .second, .val (.long (f1 v7 v8)), .second, .val (.int v13), .val (.int v16), .val (.int v19), .unset, .unset, .unset, .unset, .unset, .unset] [(.int v8), (.int v7)]))
  obtain ⟨v22, hv22⟩ : ∃ z : Int32, z = (if v7 < v8 then v8 else v7) := ⟨_, rfl⟩
  have J103 : Go p e below (AtF p l e room_1 s m #[(.int p1), (.int p2), (.int p3), (.int p4)] below meth c n0 0 0 h0 (mkF m 113 #[.val (.int p1), .val (.int p2), .val (.int p3), .val (.int p4), .val (.int v5), .val (.int v6), .val (.int v7), .val (.int v8), .val (.long (f1 v5 v6)), .second, .val (.long (f1 v6 v5)), .second, .val (.long (f1 v7 v8)), .second, .val (.int v13), .val (.int v16), .val (.int v19), .unset, .unset, .unset, .unset, .unset, .unset] [(.int v22)])) (T20.setTop (mkF m 103 #[.val (.int p1), .val (.int p2), .val (.int p3), .val (.int p4), .val (.int v5), .val (.int v6), .val (.int v7), .val (.int v8), .val (.long (f1 v5 v6)), .second, .val (.long (f1 v6 v5)), .second, .val (.long (f1 v7 v8)), .second, .val (.int v13), .val (.int v16), .val (.int v19), .unset, .unset, .unset, .unset, .unset, .unset] [(.int v8), (.int v7)])) := by
    by_cases hc21 : v7 < v8
    · refine Go.step (fun t k => XS.icmpNo X20.here hx rfl (hb hby at_103) rfl (tlt hc21).2.1 k) ?_
      show Go p e below _ (T20.setTop (mkF m 106 #[.val (.int p1), .val (.int p2), .val (.int p3), .val (.int p4), .val (.int v5), .val (.int v6), .val (.int v7), .val (.int v8), .val (.long (f1 v5 v6)), .second, .val (.long (f1 v6 v5)), .second, .val (.long (f1 v7 v8)), .second, .val (.int v13), .val (.int v16), .val (.int v19), .unset, .unset, .unset, .unset, .unset, .unset] []))
      refine Go.step (fun t k => XS.iload X20.here hx rfl (hb hby at_106) rfl k) ?_
      show Go p e below _ (T20.setTop (mkF m 108 #[.val (.int p1), .val (.int p2), .val (.int p3), .val (.int p4), .val (.int v5), .val (.int v6), .val (.int v7), .val (.int v8), .val (.long (f1 v5 v6)), .second, .val (.long (f1 v6 v5)), .second, .val (.long (f1 v7 v8)), .second, .val (.int v13), .val (.int v16), .val (.int v19), .unset, .unset, .unset, .unset, .unset, .unset] [(.int v8)]))
      refine Go.step (fun t k => XS.goto X20.here hx rfl (pc0 := 108) (pc' := 113) rfl (hb hby at_108) (by decide) (by decide) k) ?_
      show Go p e below _ (T20.setTop (mkF m 113 #[.val (.int p1), .val (.int p2), .val (.int p3), .val (.int p4), .val (.int v5), .val (.int v6), .val (.int v7), .val (.int v8), .val (.long (f1 v5 v6)), .second, .val (.long (f1 v6 v5)), .second, .val (.long (f1 v7 v8)), .second, .val (.int v13), .val (.int v16), .val (.int v19), .unset, .unset, .unset, .unset, .unset, .unset] [(.int v8)]))
      exact Go.here ⟨_, _, by simp only [hv22, if_pos hc21], X20, N20, e20⟩
    · refine Go.step (fun t k => XS.icmpYes X20.here hx rfl (pc0 := 103) (pc' := 111) rfl (hb hby at_103) rfl (flt hc21).2.1 (by decide) (by decide) k) ?_
      show Go p e below _ (T20.setTop (mkF m 111 #[.val (.int p1), .val (.int p2), .val (.int p3), .val (.int p4), .val (.int v5), .val (.int v6), .val (.int v7), .val (.int v8), .val (.long (f1 v5 v6)), .second, .val (.long (f1 v6 v5)), .second, .val (.long (f1 v7 v8)), .second, .val (.int v13), .val (.int v16), .val (.int v19), .unset, .unset, .unset, .unset, .unset, .unset] []))
      refine Go.step (fun t k => XS.iload X20.here hx rfl (hb hby at_111) rfl k) ?_
      show Go p e below _ (T20.setTop (mkF m 113 #[.val (.int p1), .val (.int p2), .val (.int p3), .val (.int p4), .val (.int v5), .val (.int v6), .val (.int v7), .val (.int v8), .val (.long (f1 v5 v6)), .second, .val (.long (f1 v6 v5)), .second, .val (.long (f1 v7 v8)), .second, .val (.int v13), .val (.int v16), .val (.int v19), .unset, .unset, .unset, .unset, .unset, .unset] [(.int v7)]))
      exact Go.here ⟨_, _, by simp only [hv22, if_neg hc21], X20, N20, e20⟩
  obtain ⟨_, st23, T23, Lj23, rfl, X23, N23, e23⟩ := J103
  refine Go.trans st23 ?_
  show Go p e below _ (T23.setTop (mkF m 113 #[.val (.int p1), .val (.int p2), .val (.int p3), .val (.int p4), .val (.int v5), .val (.int v6), .val (.int v7), .val (.int v8), .val (.long (f1 v5 v6)), .second, .val (.long (f1 v6 v5)), .second, .val (.long (f1 v7 v8)), .second, .val (.int v13), .val (.int v16), .val (.int v19), .unset, .unset, .unset, .unset, .unset, .unset] [(.int v22)]))
  refine Go.step (fun t k => XS.istore X23.here hx rfl (hb hby at_113) rfl (l' := #[.val (.int p1), .val (.int p2), .val (.int p3), .val (.int p4), .val (.int v5), .val (.int v6), .val (.int v7), .val (.int v8), .val (.long (f1 v5 v6)), .second, .val (.long (f1 v6 v5)), .second, .val (.long (f1 v7 v8)), .second, .val (.int v13), .val (.int v16), .val (.int v19), .val (.int v22), .unset, .unset, .unset, .unset, .unset]) rfl k) ?_
  show Go p e below _ (T23.setTop (mkF m 115 #[.val (.int p1), .val (.int p2), .val (.int p3), .val (.int p4), .val (.int v5), .val (.int v6), .val (.int v7), .val (.int v8), .val (.long (f1 v5 v6)), .second, .val (.long (f1 v6 v5)), .second, .val (.long (f1 v7 v8)), .second, .val (.int v13), .val (.int v16), .val (.int v19), .val (.int v22), .unset, .unset, .unset, .unset, .unset] []))
  refine Go.step (fun t k => XS.lload X23.here hx rfl (hb hby at_115) rfl k) ?_
  show Go p e below _ (T23.setTop (mkF m 117 #[.val (.int p1), .val (.int p2), .val (.int p3), .val (.int p4), .val (.int v5), .val (.int v6), .val (.int v7), .val (.int v8), .val (.long (f1 v5 v6)), .second, .val (.long (f1 v6 v5)), .second, .val (.long (f1 v7 v8)), .second, .val (.int v13), .val (.int v16), .val (.int v19), .val (.int v22), .unset, .unset, .unset, .unset, .unset] [(.long (f1 v5 v6))]))
  refine Go.step (fun t k => XS.iload X23.here hx rfl (hb hby at_117) rfl k) ?_
  show Go p e below _ (T23.setTop (mkF m 119 #[.val (.int p1), .val (.int p2), .val (.int p3), .val (.int p4), .val (.int v5), .val (.int v6), .val (.int v7), .val (.int v8), .val (.long (f1 v5 v6)), .second, .val (.long (f1 v6 v5)), .second, .val (.long (f1 v7 v8)), .second, .val (.int v13), .val (.int v16), .val (.int v19), .val (.int v22), .unset, .unset, .unset, .unset, .unset] [(.int v13), (.long (f1 v5 v6))]))
  refine Go.step (fun t k => XS.i2l X23.here hx rfl (hb hby at_119) rfl k) ?_
  show Go p e below _ (T23.setTop (mkF m 120 #[.val (.int p1), .val (.int p2), .val (.int p3), .val (.int p4), .val (.int v5), .val (.int v6), .val (.int v7), .val (.int v8), .val (.long (f1 v5 v6)), .second, .val (.long (f1 v6 v5)), .second, .val (.long (f1 v7 v8)), .second, .val (.int v13), .val (.int v16), .val (.int v19), .val (.int v22), .unset, .unset, .unset, .unset, .unset] [(.long (v13.toInt64)), (.long (f1 v5 v6))]))
  refine Go.step (X23.ldc2Long hx hown (mvT hZ (hw _ (List.mem_of_getElem? (i := 12) rfl))) (g := (mkF m 120 #[.val (.int p1), .val (.int p2), .val (.int p3), .val (.int p4), .val (.int v5), .val (.int v6), .val (.int v7), .val (.int v8), .val (.long (f1 v5 v6)), .second, .val (.long (f1 v6 v5)), .second, .val (.long (f1 v7 v8)), .second, .val (.int v13), .val (.int v16), .val (.int v19), .val (.int v22), .unset, .unset, .unset, .unset, .unset] [(.long (v13.toInt64)), (.long (f1 v5 v6))])) rfl (hb hby at_120)) ?_
  show Go p e below _ (T23.setTop (mkF m 123 #[.val (.int p1), .val (.int p2), .val (.int p3), .val (.int p4), .val (.int v5), .val (.int v6), .val (.int v7), .val (.int v8), .val (.long (f1 v5 v6)), .second, .val (.long (f1 v6 v5)), .second, .val (.long (f1 v7 v8)), .second, .val (.int v13), .val (.int v16), .val (.int v19), .val (.int v22), .unset, .unset, .unset, .unset, .unset] [(.long (4294967296 : Int64)), (.long (v13.toInt64)), (.long (f1 v5 v6))]))
  refine Go.step (fun t k => XS.lmul X23.here hx rfl (hb hby at_123) rfl k) ?_
  show Go p e below _ (T23.setTop (mkF m 124 #[.val (.int p1), .val (.int p2), .val (.int p3), .val (.int p4), .val (.int v5), .val (.int v6), .val (.int v7), .val (.int v8), .val (.long (f1 v5 v6)), .second, .val (.long (f1 v6 v5)), .second, .val (.long (f1 v7 v8)), .second, .val (.int v13), .val (.int v16), .val (.int v19), .val (.int v22), .unset, .unset, .unset, .unset, .unset] [(.long ((v13.toInt64) * (4294967296 : Int64))), (.long (f1 v5 v6))]))
  refine Go.step (fun t k => XS.iload X23.here hx rfl (hb hby at_124) rfl k) ?_
  show Go p e below _ (T23.setTop (mkF m 126 #[.val (.int p1), .val (.int p2), .val (.int p3), .val (.int p4), .val (.int v5), .val (.int v6), .val (.int v7), .val (.int v8), .val (.long (f1 v5 v6)), .second, .val (.long (f1 v6 v5)), .second, .val (.long (f1 v7 v8)), .second, .val (.int v13), .val (.int v16), .val (.int v19), .val (.int v22), .unset, .unset, .unset, .unset, .unset] [(.int v16), (.long ((v13.toInt64) * (4294967296 : Int64))), (.long (f1 v5 v6))]))
  refine Go.step (fun t k => XS.i2l X23.here hx rfl (hb hby at_126) rfl k) ?_
  show Go p e below _ (T23.setTop (mkF m 127 #[.val (.int p1), .val (.int p2), .val (.int p3), .val (.int p4), .val (.int v5), .val (.int v6), .val (.int v7), .val (.int v8), .val (.long (f1 v5 v6)), .second, .val (.long (f1 v6 v5)), .second, .val (.long (f1 v7 v8)), .second, .val (.int v13), .val (.int v16), .val (.int v19), .val (.int v22), .unset, .unset, .unset, .unset, .unset] [(.long (v16.toInt64)), (.long ((v13.toInt64) * (4294967296 : Int64))), (.long (f1 v5 v6))]))
  refine Go.step (fun t k => XS.ladd X23.here hx rfl (hb hby at_127) rfl k) ?_
  show Go p e below _ (T23.setTop (mkF m 128 #[.val (.int p1), .val (.int p2), .val (.int p3), .val (.int p4), .val (.int v5), .val (.int v6), .val (.int v7), .val (.int v8), .val (.long (f1 v5 v6)), .second, .val (.long (f1 v6 v5)), .second, .val (.long (f1 v7 v8)), .second, .val (.int v13), .val (.int v16), .val (.int v19), .val (.int v22), .unset, .unset, .unset, .unset, .unset] [(.long (((v13.toInt64) * (4294967296 : Int64)) + (v16.toInt64))), (.long (f1 v5 v6))]))
  refine Go.step (fun t k => XS.lcmp X23.here hx rfl (hb hby at_128) rfl k) ?_
  show Go p e below _ (T23.setTop (mkF m 129 #[.val (.int p1), .val (.int p2), .val (.int p3), .val (.int p4), .val (.int v5), .val (.int v6), .val (.int v7), .val (.int v8), .val (.long (f1 v5 v6)), .second, .val (.long (f1 v6 v5)), .second, .val (.long (f1 v7 v8)), .second, .val (.int v13), .val (.int v16), .val (.int v19), .val (.int v22), .unset, .unset, .unset, .unset, .unset] [(.int (lcmpW (f1 v5 v6) (((v13.toInt64) * (4294967296 : Int64)) + (v16.toInt64))))]))
  obtain ⟨v25, hv25⟩ : ∃ z : Int32, z = (if (f1 v5 v6) = (((v13.toInt64) * (4294967296 : Int64)) + (v16.toInt64)) then (1 : Int32) else (0 : Int32)) := ⟨_, rfl⟩
  have J129 : Go p e below (AtF p l e room_1 s m #[(.int p1), (.int p2), (.int p3), (.int p4)] below meth c n0 0 0 h0 (mkF m 137 #[.val (.int p1), .val (.int p2), .val (.int p3), .val (.int p4), .val (.int v5), .val (.int v6), .val (.int v7), .val (.int v8), .val (.long (f1 v5 v6)), .second, .val (.long (f1 v6 v5)), .second, .val (.long (f1 v7 v8)), .second, .val (.int v13), .val (.int v16), .val (.int v19), .val (.int v22), .unset, .unset, .unset, .unset, .unset] [(.int v25)])) (T23.setTop (mkF m 129 #[.val (.int p1), .val (.int p2), .val (.int p3), .val (.int p4), .val (.int v5), .val (.int v6), .val (.int v7), .val (.int v8), .val (.long (f1 v5 v6)), .second, .val (.long (f1 v6 v5)), .second, .val (.long (f1 v7 v8)), .second, .val (.int v13), .val (.int v16), .val (.int v19), .val (.int v22), .unset, .unset, .unset, .unset, .unset] [(.int (lcmpW (f1 v5 v6) (((v13.toInt64) * (4294967296 : Int64)) + (v16.toInt64))))])) := by
    by_cases hc24 : (f1 v5 v6) = (((v13.toInt64) * (4294967296 : Int64)) + (v16.toInt64))
    · refine Go.step (fun t k => XS.ifNo X23.here hx rfl (hb hby at_129) rfl ((if0 _ _).trans (teq ((lw_eq _ _).mpr hc24)).2) k) ?_
      show Go p e below _ (T23.setTop (mkF m 132 #[.val (.int p1), .val (.int p2), .val (.int p3), .val (.int p4), .val (.int v5), .val (.int v6), .val (.int v7), .val (.int v8), .val (.long (f1 v5 v6)), .second, .val (.long (f1 v6 v5)), .second, .val (.long (f1 v7 v8)), .second, .val (.int v13), .val (.int v16), .val (.int v19), .val (.int v22), .unset, .unset, .unset, .unset, .unset] []))
      refine Go.step (fun t k => XS.iconst X23.here hx rfl (hb hby at_132)  k) ?_
      show Go p e below _ (T23.setTop (mkF m 133 #[.val (.int p1), .val (.int p2), .val (.int p3), .val (.int p4), .val (.int v5), .val (.int v6), .val (.int v7), .val (.int v8), .val (.long (f1 v5 v6)), .second, .val (.long (f1 v6 v5)), .second, .val (.long (f1 v7 v8)), .second, .val (.int v13), .val (.int v16), .val (.int v19), .val (.int v22), .unset, .unset, .unset, .unset, .unset] [(.int (1 : Int32))]))
      refine Go.step (fun t k => XS.goto X23.here hx rfl (pc0 := 133) (pc' := 137) rfl (hb hby at_133) (by decide) (by decide) k) ?_
      show Go p e below _ (T23.setTop (mkF m 137 #[.val (.int p1), .val (.int p2), .val (.int p3), .val (.int p4), .val (.int v5), .val (.int v6), .val (.int v7), .val (.int v8), .val (.long (f1 v5 v6)), .second, .val (.long (f1 v6 v5)), .second, .val (.long (f1 v7 v8)), .second, .val (.int v13), .val (.int v16), .val (.int v19), .val (.int v22), .unset, .unset, .unset, .unset, .unset] [(.int (1 : Int32))]))
      exact Go.here ⟨_, _, by simp only [hv25, if_pos hc24], X23, N23, e23⟩
    · refine Go.step (fun t k => XS.ifYes X23.here hx rfl (pc0 := 129) (pc' := 136) rfl (hb hby at_129) rfl ((if0 _ _).trans (feq (fun q => hc24 ((lw_eq _ _).mp q))).2) (by decide) (by decide) k) ?_
      show Go p e below _ (T23.setTop (mkF m 136 #[.val (.int p1), .val (.int p2), .val (.int p3), .val (.int p4), .val (.int v5), .val (.int v6), .val (.int v7), .val (.int v8), .val (.long (f1 v5 v6)), .second, .val (.long (f1 v6 v5)), .second, .val (.long (f1 v7 v8)), .second, .val (.int v13), .val (.int v16), .val (.int v19), .val (.int v22), .unset, .unset, .unset, .unset, .unset] []))
      refine Go.step (fun t k => XS.iconst X23.here hx rfl (hb hby at_136)  k) ?_
      show Go p e below _ (T23.setTop (mkF m 137 #[.val (.int p1), .val (.int p2), .val (.int p3), .val (.int p4), .val (.int v5), .val (.int v6), .val (.int v7), .val (.int v8), .val (.long (f1 v5 v6)), .second, .val (.long (f1 v6 v5)), .second, .val (.long (f1 v7 v8)), .second, .val (.int v13), .val (.int v16), .val (.int v19), .val (.int v22), .unset, .unset, .unset, .unset, .unset] [(.int (0 : Int32))]))
      exact Go.here ⟨_, _, by simp only [hv25, if_neg hc24], X23, N23, e23⟩
  obtain ⟨_, st26, T26, Lj26, rfl, X26, N26, e26⟩ := J129
  refine Go.trans st26 ?_
  show Go p e below _ (T26.setTop (mkF m 137 #[.val (.int p1), .val (.int p2), .val (.int p3), .val (.int p4), .val (.int v5), .val (.int v6), .val (.int v7), .val (.int v8), .val (.long (f1 v5 v6)), .second, .val (.long (f1 v6 v5)), .second, .val (.long (f1 v7 v8)), .second, .val (.int v13), .val (.int v16), .val (.int v19), .val (.int v22), .unset, .unset, .unset, .unset, .unset] [(.int v25)]))
  refine Go.step (fun t k => XS.istore X26.here hx rfl (hb hby at_137) rfl (l' := #[.val (.int p1), .val (.int p2), .val (.int p3), .val (.int p4), .val (.int v5), .val (.int v6), .val (.int v7), .val (.int v8), .val (.long (f1 v5 v6)), .second, .val (.long (f1 v6 v5)), .second, .val (.long (f1 v7 v8)), .second, .val (.int v13), .val (.int v16), .val (.int v19), .val (.int v22), .val (.int v25), .unset, .unset, .unset, .unset]) rfl k) ?_
  show Go p e below _ (T26.setTop (mkF m 139 #[.val (.int p1), .val (.int p2), .val (.int p3), .val (.int p4), .val (.int v5), .val (.int v6), .val (.int v7), .val (.int v8), .val (.long (f1 v5 v6)), .second, .val (.long (f1 v6 v5)), .second, .val (.long (f1 v7 v8)), .second, .val (.int v13), .val (.int v16), .val (.int v19), .val (.int v22), .val (.int v25), .unset, .unset, .unset, .unset] []))
  refine Go.step (fun t k => XS.lload X26.here hx rfl (hb hby at_139) rfl k) ?_
  show Go p e below _ (T26.setTop (mkF m 141 #[.val (.int p1), .val (.int p2), .val (.int p3), .val (.int p4), .val (.int v5), .val (.int v6), .val (.int v7), .val (.int v8), .val (.long (f1 v5 v6)), .second, .val (.long (f1 v6 v5)), .second, .val (.long (f1 v7 v8)), .second, .val (.int v13), .val (.int v16), .val (.int v19), .val (.int v22), .val (.int v25), .unset, .unset, .unset, .unset] [(.long (f1 v5 v6))]))
  refine Go.step (fun t k => XS.lload X26.here hx rfl (hb hby at_141) rfl k) ?_
  show Go p e below _ (T26.setTop (mkF m 143 #[.val (.int p1), .val (.int p2), .val (.int p3), .val (.int p4), .val (.int v5), .val (.int v6), .val (.int v7), .val (.int v8), .val (.long (f1 v5 v6)), .second, .val (.long (f1 v6 v5)), .second, .val (.long (f1 v7 v8)), .second, .val (.int v13), .val (.int v16), .val (.int v19), .val (.int v22), .val (.int v25), .unset, .unset, .unset, .unset] [(.long (f1 v6 v5)), (.long (f1 v5 v6))]))
  refine Go.step (fun t k => XS.lcmp X26.here hx rfl (hb hby at_143) rfl k) ?_
  show Go p e below _ (T26.setTop (mkF m 144 #[.val (.int p1), .val (.int p2), .val (.int p3), .val (.int p4), .val (.int v5), .val (.int v6), .val (.int v7), .val (.int v8), .val (.long (f1 v5 v6)), .second, .val (.long (f1 v6 v5)), .second, .val (.long (f1 v7 v8)), .second, .val (.int v13), .val (.int v16), .val (.int v19), .val (.int v22), .val (.int v25), .unset, .unset, .unset, .unset] [(.int (lcmpW (f1 v5 v6) (f1 v6 v5)))]))
  obtain ⟨v28, hv28⟩ : ∃ z : Int32, z = (if (f1 v5 v6) = (f1 v6 v5) then (1 : Int32) else (0 : Int32)) := ⟨_, rfl⟩
  have J144 : Go p e below (AtF p l e room_1 s m #[(.int p1), (.int p2), (.int p3), (.int p4)] below meth c n0 0 0 h0 (mkF m 152 #[.val (.int p1), .val (.int p2), .val (.int p3), .val (.int p4), .val (.int v5), .val (.int v6), .val (.int v7), .val (.int v8), .val (.long (f1 v5 v6)), .second, .val (.long (f1 v6 v5)), .second, .val (.long (f1 v7 v8)), .second, .val (.int v13), .val (.int v16), .val (.int v19), .val (.int v22), .val (.int v25), .unset, .unset, .unset, .unset] [(.int v28)])) (T26.setTop (mkF m 144 #[.val (.int p1), .val (.int p2), .val (.int p3), .val (.int p4), .val (.int v5), .val (.int v6), .val (.int v7), .val (.int v8), .val (.long (f1 v5 v6)), .second, .val (.long (f1 v6 v5)), .second, .val (.long (f1 v7 v8)), .second, .val (.int v13), .val (.int v16), .val (.int v19), .val (.int v22), .val (.int v25), .unset, .unset, .unset, .unset] [(.int (lcmpW (f1 v5 v6) (f1 v6 v5)))])) := by
    by_cases hc27 : (f1 v5 v6) = (f1 v6 v5)
    · refine Go.step (fun t k => XS.ifNo X26.here hx rfl (hb hby at_144) rfl ((if0 _ _).trans (teq ((lw_eq _ _).mpr hc27)).2) k) ?_
      show Go p e below _ (T26.setTop (mkF m 147 #[.val (.int p1), .val (.int p2), .val (.int p3), .val (.int p4), .val (.int v5), .val (.int v6), .val (.int v7), .val (.int v8), .val (.long (f1 v5 v6)), .second, .val (.long (f1 v6 v5)), .second, .val (.long (f1 v7 v8)), .second, .val (.int v13), .val (.int v16), .val (.int v19), .val (.int v22), .val (.int v25), .unset, .unset, .unset, .unset] []))
      refine Go.step (fun t k => XS.iconst X26.here hx rfl (hb hby at_147)  k) ?_
      show Go p e below _ (T26.setTop (mkF m 148 #[.val (.int p1), .val (.int p2), .val (.int p3), .val (.int p4), .val (.int v5), .val (.int v6), .val (.int v7), .val (.int v8), .val (.long (f1 v5 v6)), .second, .val (.long (f1 v6 v5)), .second, .val (.long (f1 v7 v8)), .second, .val (.int v13), .val (.int v16), .val (.int v19), .val (.int v22), .val (.int v25), .unset, .unset, .unset, .unset] [(.int (1 : Int32))]))
      refine Go.step (fun t k => XS.goto X26.here hx rfl (pc0 := 148) (pc' := 152) rfl (hb hby at_148) (by decide) (by decide) k) ?_
      show Go p e below _ (T26.setTop (mkF m 152 #[.val (.int p1), .val (.int p2), .val (.int p3), .val (.int p4), .val (.int v5), .val (.int v6), .val (.int v7), .val (.int v8), .val (.long (f1 v5 v6)), .second, .val (.long (f1 v6 v5)), .second, .val (.long (f1 v7 v8)), .second, .val (.int v13), .val (.int v16), .val (.int v19), .val (.int v22), .val (.int v25), .unset, .unset, .unset, .unset] [(.int (1 : Int32))]))
      exact Go.here ⟨_, _, by simp only [hv28, if_pos hc27], X26, N26, e26⟩
    · refine Go.step (fun t k => XS.ifYes X26.here hx rfl (pc0 := 144) (pc' := 151) rfl (hb hby at_144) rfl ((if0 _ _).trans (feq (fun q => hc27 ((lw_eq _ _).mp q))).2) (by decide) (by decide) k) ?_
      show Go p e below _ (T26.setTop (mkF m 151 #[.val (.int p1), .val (.int p2), .val (.int p3), .val (.int p4), .val (.int v5), .val (.int v6), .val (.int v7), .val (.int v8), .val (.long (f1 v5 v6)), .second, .val (.long (f1 v6 v5)), .second, .val (.long (f1 v7 v8)), .second, .val (.int v13), .val (.int v16), .val (.int v19), .val (.int v22), .val (.int v25), .unset, .unset, .unset, .unset] []))
      refine Go.step (fun t k => XS.iconst X26.here hx rfl (hb hby at_151)  k) ?_
      show Go p e below _ (T26.setTop (mkF m 152 #[.val (.int p1), .val (.int p2), .val (.int p3), .val (.int p4), .val (.int v5), .val (.int v6), .val (.int v7), .val (.int v8), .val (.long (f1 v5 v6)), .second, .val (.long (f1 v6 v5)), .second, .val (.long (f1 v7 v8)), .second, .val (.int v13), .val (.int v16), .val (.int v19), .val (.int v22), .val (.int v25), .unset, .unset, .unset, .unset] [(.int (0 : Int32))]))
      exact Go.here ⟨_, _, by simp only [hv28, if_neg hc27], X26, N26, e26⟩
  obtain ⟨_, st29, T29, Lj29, rfl, X29, N29, e29⟩ := J144
  refine Go.trans st29 ?_
  show Go p e below _ (T29.setTop (mkF m 152 #[.val (.int p1), .val (.int p2), .val (.int p3), .val (.int p4), .val (.int v5), .val (.int v6), .val (.int v7), .val (.int v8), .val (.long (f1 v5 v6)), .second, .val (.long (f1 v6 v5)), .second, .val (.long (f1 v7 v8)), .second, .val (.int v13), .val (.int v16), .val (.int v19), .val (.int v22), .val (.int v25), .unset, .unset, .unset, .unset] [(.int v28)]))
  refine Go.step (fun t k => XS.istore X29.here hx rfl (hb hby at_152) rfl (l' := #[.val (.int p1), .val (.int p2), .val (.int p3), .val (.int p4), .val (.int v5), .val (.int v6), .val (.int v7), .val (.int v8), .val (.long (f1 v5 v6)), .second, .val (.long (f1 v6 v5)), .second, .val (.long (f1 v7 v8)), .second, .val (.int v13), .val (.int v16), .val (.int v19), .val (.int v22), .val (.int v25), .val (.int v28), .unset, .unset, .unset]) rfl k) ?_
  show Go p e below _ (T29.setTop (mkF m 154 #[.val (.int p1), .val (.int p2), .val (.int p3), .val (.int p4), .val (.int v5), .val (.int v6), .val (.int v7), .val (.int v8), .val (.long (f1 v5 v6)), .second, .val (.long (f1 v6 v5)), .second, .val (.long (f1 v7 v8)), .second, .val (.int v13), .val (.int v16), .val (.int v19), .val (.int v22), .val (.int v25), .val (.int v28), .unset, .unset, .unset] []))
  refine Go.step (fun t k => XS.lload X29.here hx rfl (hb hby at_154) rfl k) ?_
  show Go p e below _ (T29.setTop (mkF m 156 #[.val (.int p1), .val (.int p2), .val (.int p3), .val (.int p4), .val (.int v5), .val (.int v6), .val (.int v7), .val (.int v8), .val (.long (f1 v5 v6)), .second, .val (.long (f1 v6 v5)), .second, .val (.long (f1 v7 v8)), .second, .val (.int v13), .val (.int v16), .val (.int v19), .val (.int v22), .val (.int v25), .val (.int v28), .unset, .unset, .unset] [(.long (f1 v5 v6))]))
  obtain ⟨_, _, ⟨T30, L30, k30, n30⟩, -, X30, ⟨Lc30, hQ30, l30, y30, z30⟩, st30⟩ := Jvm.LawKit.callS X29 hx (y := (⟨"com/example/hertzbid/hertzbid/ConflictPairs", "first", "(J)I"⟩ : MethodName)) hown (mvT hZ (hw _ (List.mem_of_getElem? (i := 13) rfl))) (mvT hZ (hw _ (List.mem_of_getElem? (i := 14) rfl))) (mvT hZ (hw _ (List.mem_of_getElem? (i := 3) rfl))) (mvT hZ (hw _ (List.mem_of_getElem? (i := 15) rfl))) (by decide) (backOf (W := 0) (rm4 l Z a0 hw [] (f1 v5 v6) h0 n0 Z0) hZ (hw _ (List.mem_of_getElem? (i := 15) rfl)) (hw _ (List.mem_of_getElem? (i := 3) rfl)) (by decide) (by decide)) (g := (mkF m 156 #[.val (.int p1), .val (.int p2), .val (.int p3), .val (.int p4), .val (.int v5), .val (.int v6), .val (.int v7), .val (.int v8), .val (.long (f1 v5 v6)), .second, .val (.long (f1 v6 v5)), .second, .val (.long (f1 v7 v8)), .second, .val (.int v13), .val (.int v16), .val (.int v19), .val (.int v22), .val (.int v25), .val (.int v28), .unset, .unset, .unset] [(.long (f1 v5 v6))])) rfl (by rw [hml]; rfl) (argsL := [(.long (f1 v5 v6))]) (rest := []) (lenOf pd_2 rfl) rfl (by show 2 * 0 + _ ≤ _; exact Nat.le_of_eq rfl) (hb hby at_156) (fun _ _ => ⟨rfl, e29, (by decide : 0 + 0 ≤ _), (by decide : 0 + 0 ≤ _)⟩)
  dsimp only [Pt.U, Pt.locs, Pt.cells, Pt.slots] at X30 l30 y30 z30 st30 hQ30
  subst l30 y30 z30
  obtain ⟨rfl, N30q, e30⟩ := hQ30
  have N30 := Fr.app N29 N30q
  refine Go.step st30 ?_
  show Go p e below _ (T30.setTop (mkF m 159 #[.val (.int p1), .val (.int p2), .val (.int p3), .val (.int p4), .val (.int v5), .val (.int v6), .val (.int v7), .val (.int v8), .val (.long (f1 v5 v6)), .second, .val (.long (f1 v6 v5)), .second, .val (.long (f1 v7 v8)), .second, .val (.int v13), .val (.int v16), .val (.int v19), .val (.int v22), .val (.int v25), .val (.int v28), .unset, .unset, .unset] [(.int (f4 (f1 v5 v6)))]))
  refine Go.step (fun t k => XS.iload X30.here hx rfl (hb hby at_159) rfl k) ?_
  show Go p e below _ (T30.setTop (mkF m 161 #[.val (.int p1), .val (.int p2), .val (.int p3), .val (.int p4), .val (.int v5), .val (.int v6), .val (.int v7), .val (.int v8), .val (.long (f1 v5 v6)), .second, .val (.long (f1 v6 v5)), .second, .val (.long (f1 v7 v8)), .second, .val (.int v13), .val (.int v16), .val (.int v19), .val (.int v22), .val (.int v25), .val (.int v28), .unset, .unset, .unset] [(.int v13), (.int (f4 (f1 v5 v6)))]))
  obtain ⟨v34, hv34⟩ : ∃ z : Int32, z = (if (f4 (f1 v5 v6)) = v13 then (if (f5 (f1 v5 v6)) = v16 then (1 : Int32) else (0 : Int32)) else (0 : Int32)) := ⟨_, rfl⟩
  have J161 : Go p e below (AtF p l e room_1 s m #[(.int p1), (.int p2), (.int p3), (.int p4)] below meth c n0 0 0 h0 (mkF m 179 #[.val (.int p1), .val (.int p2), .val (.int p3), .val (.int p4), .val (.int v5), .val (.int v6), .val (.int v7), .val (.int v8), .val (.long (f1 v5 v6)), .second, .val (.long (f1 v6 v5)), .second, .val (.long (f1 v7 v8)), .second, .val (.int v13), .val (.int v16), .val (.int v19), .val (.int v22), .val (.int v25), .val (.int v28), .unset, .unset, .unset] [(.int v34)])) (T30.setTop (mkF m 161 #[.val (.int p1), .val (.int p2), .val (.int p3), .val (.int p4), .val (.int v5), .val (.int v6), .val (.int v7), .val (.int v8), .val (.long (f1 v5 v6)), .second, .val (.long (f1 v6 v5)), .second, .val (.long (f1 v7 v8)), .second, .val (.int v13), .val (.int v16), .val (.int v19), .val (.int v22), .val (.int v25), .val (.int v28), .unset, .unset, .unset] [(.int v13), (.int (f4 (f1 v5 v6)))])) := by
    by_cases hc31 : (f4 (f1 v5 v6)) = v13
    · refine Go.step (fun t k => XS.icmpNo X30.here hx rfl (hb hby at_161) rfl (teq hc31).2 k) ?_
      show Go p e below _ (T30.setTop (mkF m 164 #[.val (.int p1), .val (.int p2), .val (.int p3), .val (.int p4), .val (.int v5), .val (.int v6), .val (.int v7), .val (.int v8), .val (.long (f1 v5 v6)), .second, .val (.long (f1 v6 v5)), .second, .val (.long (f1 v7 v8)), .second, .val (.int v13), .val (.int v16), .val (.int v19), .val (.int v22), .val (.int v25), .val (.int v28), .unset, .unset, .unset] []))
      refine Go.step (fun t k => XS.lload X30.here hx rfl (hb hby at_164) rfl k) ?_
      show Go p e below _ (T30.setTop (mkF m 166 #[.val (.int p1), .val (.int p2), .val (.int p3), .val (.int p4), .val (.int v5), .val (.int v6), .val (.int v7), .val (.int v8), .val (.long (f1 v5 v6)), .second, .val (.long (f1 v6 v5)), .second, .val (.long (f1 v7 v8)), .second, .val (.int v13), .val (.int v16), .val (.int v19), .val (.int v22), .val (.int v25), .val (.int v28), .unset, .unset, .unset] [(.long (f1 v5 v6))]))
      obtain ⟨_, _, ⟨T32, L32, k32, n32⟩, -, X32, ⟨Lc32, hQ32, l32, y32, z32⟩, st32⟩ := Jvm.LawKit.callS X30 hx (y := (⟨"com/example/hertzbid/hertzbid/ConflictPairs", "second", "(J)I"⟩ : MethodName)) hown (mvT hZ (hw _ (List.mem_of_getElem? (i := 16) rfl))) (mvT hZ (hw _ (List.mem_of_getElem? (i := 17) rfl))) (mvT hZ (hw _ (List.mem_of_getElem? (i := 3) rfl))) (mvT hZ (hw _ (List.mem_of_getElem? (i := 18) rfl))) (by decide) (backOf (W := 0) (rm5 l Z a0 hw [] (f1 v5 v6) h0 n0 Z0) hZ (hw _ (List.mem_of_getElem? (i := 18) rfl)) (hw _ (List.mem_of_getElem? (i := 3) rfl)) (by decide) (by decide)) (g := (mkF m 166 #[.val (.int p1), .val (.int p2), .val (.int p3), .val (.int p4), .val (.int v5), .val (.int v6), .val (.int v7), .val (.int v8), .val (.long (f1 v5 v6)), .second, .val (.long (f1 v6 v5)), .second, .val (.long (f1 v7 v8)), .second, .val (.int v13), .val (.int v16), .val (.int v19), .val (.int v22), .val (.int v25), .val (.int v28), .unset, .unset, .unset] [(.long (f1 v5 v6))])) rfl (by rw [hml]; rfl) (argsL := [(.long (f1 v5 v6))]) (rest := []) (lenOf pd_2 rfl) rfl (by show 2 * 0 + _ ≤ _; exact Nat.le_of_eq rfl) (hb hby at_166) (fun _ _ => ⟨rfl, e30, (by decide : 0 + 0 ≤ _), (by decide : 0 + 0 ≤ _)⟩)
      dsimp only [Pt.U, Pt.locs, Pt.cells, Pt.slots] at X32 l32 y32 z32 st32 hQ32
      subst l32 y32 z32
      obtain ⟨rfl, N32q, e32⟩ := hQ32
      have N32 := Fr.app N30 N32q
      refine Go.step st32 ?_
      show Go p e below _ (T32.setTop (mkF m 169 #[.val (.int p1), .val (.int p2), .val (.int p3), .val (.int p4), .val (.int v5), .val (.int v6), .val (.int v7), .val (.int v8), .val (.long (f1 v5 v6)), .second, .val (.long (f1 v6 v5)), .second, .val (.long (f1 v7 v8)), .second, .val (.int v13), .val (.int v16), .val (.int v19), .val (.int v22), .val (.int v25), .val (.int v28), .unset, .unset, .unset] [(.int (f5 (f1 v5 v6)))]))
      refine Go.step (fun t k => XS.iload X32.here hx rfl (hb hby at_169) rfl k) ?_
      show Go p e below _ (T32.setTop (mkF m 171 #[.val (.int p1), .val (.int p2), .val (.int p3), .val (.int p4), .val (.int v5), .val (.int v6), .val (.int v7), .val (.int v8), .val (.long (f1 v5 v6)), .second, .val (.long (f1 v6 v5)), .second, .val (.long (f1 v7 v8)), .second, .val (.int v13), .val (.int v16), .val (.int v19), .val (.int v22), .val (.int v25), .val (.int v28), .unset, .unset, .unset] [(.int v16), (.int (f5 (f1 v5 v6)))]))
      by_cases hc33 : (f5 (f1 v5 v6)) = v16
      · refine Go.step (fun t k => XS.icmpNo X32.here hx rfl (hb hby at_171) rfl (teq hc33).2 k) ?_
        show Go p e below _ (T32.setTop (mkF m 174 #[.val (.int p1), .val (.int p2), .val (.int p3), .val (.int p4), .val (.int v5), .val (.int v6), .val (.int v7), .val (.int v8), .val (.long (f1 v5 v6)), .second, .val (.long (f1 v6 v5)), .second, .val (.long (f1 v7 v8)), .second, .val (.int v13), .val (.int v16), .val (.int v19), .val (.int v22), .val (.int v25), .val (.int v28), .unset, .unset, .unset] []))
        refine Go.step (fun t k => XS.iconst X32.here hx rfl (hb hby at_174)  k) ?_
        show Go p e below _ (T32.setTop (mkF m 175 #[.val (.int p1), .val (.int p2), .val (.int p3), .val (.int p4), .val (.int v5), .val (.int v6), .val (.int v7), .val (.int v8), .val (.long (f1 v5 v6)), .second, .val (.long (f1 v6 v5)), .second, .val (.long (f1 v7 v8)), .second, .val (.int v13), .val (.int v16), .val (.int v19), .val (.int v22), .val (.int v25), .val (.int v28), .unset, .unset, .unset] [(.int (1 : Int32))]))
        refine Go.step (fun t k => XS.goto X32.here hx rfl (pc0 := 175) (pc' := 179) rfl (hb hby at_175) (by decide) (by decide) k) ?_
        show Go p e below _ (T32.setTop (mkF m 179 #[.val (.int p1), .val (.int p2), .val (.int p3), .val (.int p4), .val (.int v5), .val (.int v6), .val (.int v7), .val (.int v8), .val (.long (f1 v5 v6)), .second, .val (.long (f1 v6 v5)), .second, .val (.long (f1 v7 v8)), .second, .val (.int v13), .val (.int v16), .val (.int v19), .val (.int v22), .val (.int v25), .val (.int v28), .unset, .unset, .unset] [(.int (1 : Int32))]))
        exact Go.here ⟨_, _, by simp only [hv34, if_pos hc31, if_pos hc33], X32, N32, e32⟩
      · refine Go.step (fun t k => XS.icmpYes X32.here hx rfl (pc0 := 171) (pc' := 178) rfl (hb hby at_171) rfl (feq hc33).2 (by decide) (by decide) k) ?_
        show Go p e below _ (T32.setTop (mkF m 178 #[.val (.int p1), .val (.int p2), .val (.int p3), .val (.int p4), .val (.int v5), .val (.int v6), .val (.int v7), .val (.int v8), .val (.long (f1 v5 v6)), .second, .val (.long (f1 v6 v5)), .second, .val (.long (f1 v7 v8)), .second, .val (.int v13), .val (.int v16), .val (.int v19), .val (.int v22), .val (.int v25), .val (.int v28), .unset, .unset, .unset] []))
        refine Go.step (fun t k => XS.iconst X32.here hx rfl (hb hby at_178)  k) ?_
        show Go p e below _ (T32.setTop (mkF m 179 #[.val (.int p1), .val (.int p2), .val (.int p3), .val (.int p4), .val (.int v5), .val (.int v6), .val (.int v7), .val (.int v8), .val (.long (f1 v5 v6)), .second, .val (.long (f1 v6 v5)), .second, .val (.long (f1 v7 v8)), .second, .val (.int v13), .val (.int v16), .val (.int v19), .val (.int v22), .val (.int v25), .val (.int v28), .unset, .unset, .unset] [(.int (0 : Int32))]))
        exact Go.here ⟨_, _, by simp only [hv34, if_pos hc31, if_neg hc33], X32, N32, e32⟩
    · refine Go.step (fun t k => XS.icmpYes X30.here hx rfl (pc0 := 161) (pc' := 178) rfl (hb hby at_161) rfl (feq hc31).2 (by decide) (by decide) k) ?_
      show Go p e below _ (T30.setTop (mkF m 178 #[.val (.int p1), .val (.int p2), .val (.int p3), .val (.int p4), .val (.int v5), .val (.int v6), .val (.int v7), .val (.int v8), .val (.long (f1 v5 v6)), .second, .val (.long (f1 v6 v5)), .second, .val (.long (f1 v7 v8)), .second, .val (.int v13), .val (.int v16), .val (.int v19), .val (.int v22), .val (.int v25), .val (.int v28), .unset, .unset, .unset] []))
      refine Go.step (fun t k => XS.iconst X30.here hx rfl (hb hby at_178)  k) ?_
      show Go p e below _ (T30.setTop (mkF m 179 #[.val (.int p1), .val (.int p2), .val (.int p3), .val (.int p4), .val (.int v5), .val (.int v6), .val (.int v7), .val (.int v8), .val (.long (f1 v5 v6)), .second, .val (.long (f1 v6 v5)), .second, .val (.long (f1 v7 v8)), .second, .val (.int v13), .val (.int v16), .val (.int v19), .val (.int v22), .val (.int v25), .val (.int v28), .unset, .unset, .unset] [(.int (0 : Int32))]))
      exact Go.here ⟨_, _, by simp only [hv34, if_neg hc31], X30, N30, e30⟩
  obtain ⟨_, st35, T35, Lj35, rfl, X35, N35, e35⟩ := J161
  refine Go.trans st35 ?_
  show Go p e below _ (T35.setTop (mkF m 179 #[.val (.int p1), .val (.int p2), .val (.int p3), .val (.int p4), .val (.int v5), .val (.int v6), .val (.int v7), .val (.int v8), .val (.long (f1 v5 v6)), .second, .val (.long (f1 v6 v5)), .second, .val (.long (f1 v7 v8)), .second, .val (.int v13), .val (.int v16), .val (.int v19), .val (.int v22), .val (.int v25), .val (.int v28), .unset, .unset, .unset] [(.int v34)]))
  refine Go.step (fun t k => XS.istore X35.here hx rfl (hb hby at_179) rfl (l' := #[.val (.int p1), .val (.int p2), .val (.int p3), .val (.int p4), .val (.int v5), .val (.int v6), .val (.int v7), .val (.int v8), .val (.long (f1 v5 v6)), .second, .val (.long (f1 v6 v5)), .second, .val (.long (f1 v7 v8)), .second, .val (.int v13), .val (.int v16), .val (.int v19), .val (.int v22), .val (.int v25), .val (.int v28), .val (.int v34), .unset, .unset]) rfl k) ?_
  show Go p e below _ (T35.setTop (mkF m 181 #[.val (.int p1), .val (.int p2), .val (.int p3), .val (.int p4), .val (.int v5), .val (.int v6), .val (.int v7), .val (.int v8), .val (.long (f1 v5 v6)), .second, .val (.long (f1 v6 v5)), .second, .val (.long (f1 v7 v8)), .second, .val (.int v13), .val (.int v16), .val (.int v19), .val (.int v22), .val (.int v25), .val (.int v28), .val (.int v34), .unset, .unset] []))
  refine Go.step (fun t k => XS.iload X35.here hx rfl (hb hby at_181) rfl k) ?_
  show Go p e below _ (T35.setTop (mkF m 183 #[.val (.int p1), .val (.int p2), .val (.int p3), .val (.int p4), .val (.int v5), .val (.int v6), .val (.int v7), .val (.int v8), .val (.long (f1 v5 v6)), .second, .val (.long (f1 v6 v5)), .second, .val (.long (f1 v7 v8)), .second, .val (.int v13), .val (.int v16), .val (.int v19), .val (.int v22), .val (.int v25), .val (.int v28), .val (.int v34), .unset, .unset] [(.int v13)]))
  refine Go.step (fun t k => XS.iload X35.here hx rfl (hb hby at_183) rfl k) ?_
  show Go p e below _ (T35.setTop (mkF m 185 #[.val (.int p1), .val (.int p2), .val (.int p3), .val (.int p4), .val (.int v5), .val (.int v6), .val (.int v7), .val (.int v8), .val (.long (f1 v5 v6)), .second, .val (.long (f1 v6 v5)), .second, .val (.long (f1 v7 v8)), .second, .val (.int v13), .val (.int v16), .val (.int v19), .val (.int v22), .val (.int v25), .val (.int v28), .val (.int v34), .unset, .unset] [(.int v19), (.int v13)]))
  obtain ⟨v39, hv39⟩ : ∃ z : Int32, z = (if v13 < v19 then (1 : Int32) else (if v13 = v19 then (if v16 < v22 then (1 : Int32) else (0 : Int32)) else (0 : Int32))) := ⟨_, rfl⟩
  have J185 : Go p e below (AtF p l e room_1 s m #[(.int p1), (.int p2), (.int p3), (.int p4)] below meth c n0 0 0 h0 (mkF m 207 #[.val (.int p1), .val (.int p2), .val (.int p3), .val (.int p4), .val (.int v5), .val (.int v6), .val (.int v7), .val (.int v8), .val (.long (f1 v5 v6)), .second, .val (.long (f1 v6 v5)), .second, .val (.long (f1 v7 v8)), .second, .val (.int v13), .val (.int v16), .val (.int v19), .val (.int v22), .val (.int v25), .val (.int v28), .val (.int v34), .unset, .unset] [(.int v39)])) (T35.setTop (mkF m 185 #[.val (.int p1), .val (.int p2), .val (.int p3), .val (.int p4), .val (.int v5), .val (.int v6), .val (.int v7), .val (.int v8), .val (.long (f1 v5 v6)), .second, .val (.long (f1 v6 v5)), .second, .val (.long (f1 v7 v8)), .second, .val (.int v13), .val (.int v16), .val (.int v19), .val (.int v22), .val (.int v25), .val (.int v28), .val (.int v34), .unset, .unset] [(.int v19), (.int v13)])) := by
    by_cases hc36 : v13 < v19
    · refine Go.step (fun t k => XS.icmpYes X35.here hx rfl (pc0 := 185) (pc' := 202) rfl (hb hby at_185) rfl (tlt hc36).1 (by decide) (by decide) k) ?_
      show Go p e below _ (T35.setTop (mkF m 202 #[.val (.int p1), .val (.int p2), .val (.int p3), .val (.int p4), .val (.int v5), .val (.int v6), .val (.int v7), .val (.int v8), .val (.long (f1 v5 v6)), .second, .val (.long (f1 v6 v5)), .second, .val (.long (f1 v7 v8)), .second, .val (.int v13), .val (.int v16), .val (.int v19), .val (.int v22), .val (.int v25), .val (.int v28), .val (.int v34), .unset, .unset] []))
      refine Go.step (fun t k => XS.iconst X35.here hx rfl (hb hby at_202)  k) ?_
      show Go p e below _ (T35.setTop (mkF m 203 #[.val (.int p1), .val (.int p2), .val (.int p3), .val (.int p4), .val (.int v5), .val (.int v6), .val (.int v7), .val (.int v8), .val (.long (f1 v5 v6)), .second, .val (.long (f1 v6 v5)), .second, .val (.long (f1 v7 v8)), .second, .val (.int v13), .val (.int v16), .val (.int v19), .val (.int v22), .val (.int v25), .val (.int v28), .val (.int v34), .unset, .unset] [(.int (1 : Int32))]))
      refine Go.step (fun t k => XS.goto X35.here hx rfl (pc0 := 203) (pc' := 207) rfl (hb hby at_203) (by decide) (by decide) k) ?_
      show Go p e below _ (T35.setTop (mkF m 207 #[.val (.int p1), .val (.int p2), .val (.int p3), .val (.int p4), .val (.int v5), .val (.int v6), .val (.int v7), .val (.int v8), .val (.long (f1 v5 v6)), .second, .val (.long (f1 v6 v5)), .second, .val (.long (f1 v7 v8)), .second, .val (.int v13), .val (.int v16), .val (.int v19), .val (.int v22), .val (.int v25), .val (.int v28), .val (.int v34), .unset, .unset] [(.int (1 : Int32))]))
      exact Go.here ⟨_, _, by simp only [hv39, if_pos hc36], X35, N35, e35⟩
    · refine Go.step (fun t k => XS.icmpNo X35.here hx rfl (hb hby at_185) rfl (flt hc36).1 k) ?_
      show Go p e below _ (T35.setTop (mkF m 188 #[.val (.int p1), .val (.int p2), .val (.int p3), .val (.int p4), .val (.int v5), .val (.int v6), .val (.int v7), .val (.int v8), .val (.long (f1 v5 v6)), .second, .val (.long (f1 v6 v5)), .second, .val (.long (f1 v7 v8)), .second, .val (.int v13), .val (.int v16), .val (.int v19), .val (.int v22), .val (.int v25), .val (.int v28), .val (.int v34), .unset, .unset] []))
      refine Go.step (fun t k => XS.iload X35.here hx rfl (hb hby at_188) rfl k) ?_
      show Go p e below _ (T35.setTop (mkF m 190 #[.val (.int p1), .val (.int p2), .val (.int p3), .val (.int p4), .val (.int v5), .val (.int v6), .val (.int v7), .val (.int v8), .val (.long (f1 v5 v6)), .second, .val (.long (f1 v6 v5)), .second, .val (.long (f1 v7 v8)), .second, .val (.int v13), .val (.int v16), .val (.int v19), .val (.int v22), .val (.int v25), .val (.int v28), .val (.int v34), .unset, .unset] [(.int v13)]))
      refine Go.step (fun t k => XS.iload X35.here hx rfl (hb hby at_190) rfl k) ?_
      show Go p e below _ (T35.setTop (mkF m 192 #[.val (.int p1), .val (.int p2), .val (.int p3), .val (.int p4), .val (.int v5), .val (.int v6), .val (.int v7), .val (.int v8), .val (.long (f1 v5 v6)), .second, .val (.long (f1 v6 v5)), .second, .val (.long (f1 v7 v8)), .second, .val (.int v13), .val (.int v16), .val (.int v19), .val (.int v22), .val (.int v25), .val (.int v28), .val (.int v34), .unset, .unset] [(.int v19), (.int v13)]))
      by_cases hc37 : v13 = v19
      · refine Go.step (fun t k => XS.icmpNo X35.here hx rfl (hb hby at_192) rfl (teq hc37).2 k) ?_
        show Go p e below _ (T35.setTop (mkF m 195 #[.val (.int p1), .val (.int p2), .val (.int p3), .val (.int p4), .val (.int v5), .val (.int v6), .val (.int v7), .val (.int v8), .val (.long (f1 v5 v6)), .second, .val (.long (f1 v6 v5)), .second, .val (.long (f1 v7 v8)), .second, .val (.int v13), .val (.int v16), .val (.int v19), .val (.int v22), .val (.int v25), .val (.int v28), .val (.int v34), .unset, .unset] []))
        refine Go.step (fun t k => XS.iload X35.here hx rfl (hb hby at_195) rfl k) ?_
        show Go p e below _ (T35.setTop (mkF m 197 #[.val (.int p1), .val (.int p2), .val (.int p3), .val (.int p4), .val (.int v5), .val (.int v6), .val (.int v7), .val (.int v8), .val (.long (f1 v5 v6)), .second, .val (.long (f1 v6 v5)), .second, .val (.long (f1 v7 v8)), .second, .val (.int v13), .val (.int v16), .val (.int v19), .val (.int v22), .val (.int v25), .val (.int v28), .val (.int v34), .unset, .unset] [(.int v16)]))
        refine Go.step (fun t k => XS.iload X35.here hx rfl (hb hby at_197) rfl k) ?_
        show Go p e below _ (T35.setTop (mkF m 199 #[.val (.int p1), .val (.int p2), .val (.int p3), .val (.int p4), .val (.int v5), .val (.int v6), .val (.int v7), .val (.int v8), .val (.long (f1 v5 v6)), .second, .val (.long (f1 v6 v5)), .second, .val (.long (f1 v7 v8)), .second, .val (.int v13), .val (.int v16), .val (.int v19), .val (.int v22), .val (.int v25), .val (.int v28), .val (.int v34), .unset, .unset] [(.int v22), (.int v16)]))
        by_cases hc38 : v16 < v22
        · refine Go.step (fun t k => XS.icmpNo X35.here hx rfl (hb hby at_199) rfl (tlt hc38).2.1 k) ?_
          show Go p e below _ (T35.setTop (mkF m 202 #[.val (.int p1), .val (.int p2), .val (.int p3), .val (.int p4), .val (.int v5), .val (.int v6), .val (.int v7), .val (.int v8), .val (.long (f1 v5 v6)), .second, .val (.long (f1 v6 v5)), .second, .val (.long (f1 v7 v8)), .second, .val (.int v13), .val (.int v16), .val (.int v19), .val (.int v22), .val (.int v25), .val (.int v28), .val (.int v34), .unset, .unset] []))
          refine Go.step (fun t k => XS.iconst X35.here hx rfl (hb hby at_202)  k) ?_
          show Go p e below _ (T35.setTop (mkF m 203 #[.val (.int p1), .val (.int p2), .val (.int p3), .val (.int p4), .val (.int v5), .val (.int v6), .val (.int v7), .val (.int v8), .val (.long (f1 v5 v6)), .second, .val (.long (f1 v6 v5)), .second, .val (.long (f1 v7 v8)), .second, .val (.int v13), .val (.int v16), .val (.int v19), .val (.int v22), .val (.int v25), .val (.int v28), .val (.int v34), .unset, .unset] [(.int (1 : Int32))]))
          refine Go.step (fun t k => XS.goto X35.here hx rfl (pc0 := 203) (pc' := 207) rfl (hb hby at_203) (by decide) (by decide) k) ?_
          show Go p e below _ (T35.setTop (mkF m 207 #[.val (.int p1), .val (.int p2), .val (.int p3), .val (.int p4), .val (.int v5), .val (.int v6), .val (.int v7), .val (.int v8), .val (.long (f1 v5 v6)), .second, .val (.long (f1 v6 v5)), .second, .val (.long (f1 v7 v8)), .second, .val (.int v13), .val (.int v16), .val (.int v19), .val (.int v22), .val (.int v25), .val (.int v28), .val (.int v34), .unset, .unset] [(.int (1 : Int32))]))
          exact Go.here ⟨_, _, by simp only [hv39, if_neg hc36, if_pos hc37, if_pos hc38], X35, N35, e35⟩
        · refine Go.step (fun t k => XS.icmpYes X35.here hx rfl (pc0 := 199) (pc' := 206) rfl (hb hby at_199) rfl (flt hc38).2.1 (by decide) (by decide) k) ?_
          show Go p e below _ (T35.setTop (mkF m 206 #[.val (.int p1), .val (.int p2), .val (.int p3), .val (.int p4), .val (.int v5), .val (.int v6), .val (.int v7), .val (.int v8), .val (.long (f1 v5 v6)), .second, .val (.long (f1 v6 v5)), .second, .val (.long (f1 v7 v8)), .second, .val (.int v13), .val (.int v16), .val (.int v19), .val (.int v22), .val (.int v25), .val (.int v28), .val (.int v34), .unset, .unset] []))
          refine Go.step (fun t k => XS.iconst X35.here hx rfl (hb hby at_206)  k) ?_
          show Go p e below _ (T35.setTop (mkF m 207 #[.val (.int p1), .val (.int p2), .val (.int p3), .val (.int p4), .val (.int v5), .val (.int v6), .val (.int v7), .val (.int v8), .val (.long (f1 v5 v6)), .second, .val (.long (f1 v6 v5)), .second, .val (.long (f1 v7 v8)), .second, .val (.int v13), .val (.int v16), .val (.int v19), .val (.int v22), .val (.int v25), .val (.int v28), .val (.int v34), .unset, .unset] [(.int (0 : Int32))]))
          exact Go.here ⟨_, _, by simp only [hv39, if_neg hc36, if_pos hc37, if_neg hc38], X35, N35, e35⟩
      · refine Go.step (fun t k => XS.icmpYes X35.here hx rfl (pc0 := 192) (pc' := 206) rfl (hb hby at_192) rfl (feq hc37).2 (by decide) (by decide) k) ?_
        show Go p e below _ (T35.setTop (mkF m 206 #[.val (.int p1), .val (.int p2), .val (.int p3), .val (.int p4), .val (.int v5), .val (.int v6), .val (.int v7), .val (.int v8), .val (.long (f1 v5 v6)), .second, .val (.long (f1 v6 v5)), .second, .val (.long (f1 v7 v8)), .second, .val (.int v13), .val (.int v16), .val (.int v19), .val (.int v22), .val (.int v25), .val (.int v28), .val (.int v34), .unset, .unset] []))
        refine Go.step (fun t k => XS.iconst X35.here hx rfl (hb hby at_206)  k) ?_
        show Go p e below _ (T35.setTop (mkF m 207 #[.val (.int p1), .val (.int p2), .val (.int p3), .val (.int p4), .val (.int v5), .val (.int v6), .val (.int v7), .val (.int v8), .val (.long (f1 v5 v6)), .second, .val (.long (f1 v6 v5)), .second, .val (.long (f1 v7 v8)), .second, .val (.int v13), .val (.int v16), .val (.int v19), .val (.int v22), .val (.int v25), .val (.int v28), .val (.int v34), .unset, .unset] [(.int (0 : Int32))]))
        exact Go.here ⟨_, _, by simp only [hv39, if_neg hc36, if_neg hc37], X35, N35, e35⟩
  obtain ⟨_, st40, T40, Lj40, rfl, X40, N40, e40⟩ := J185
  refine Go.trans st40 ?_
  show Go p e below _ (T40.setTop (mkF m 207 #[.val (.int p1), .val (.int p2), .val (.int p3), .val (.int p4), .val (.int v5), .val (.int v6), .val (.int v7), .val (.int v8), .val (.long (f1 v5 v6)), .second, .val (.long (f1 v6 v5)), .second, .val (.long (f1 v7 v8)), .second, .val (.int v13), .val (.int v16), .val (.int v19), .val (.int v22), .val (.int v25), .val (.int v28), .val (.int v34), .unset, .unset] [(.int v39)]))
  refine Go.step (fun t k => XS.istore X40.here hx rfl (hb hby at_207) rfl (l' := #[.val (.int p1), .val (.int p2), .val (.int p3), .val (.int p4), .val (.int v5), .val (.int v6), .val (.int v7), .val (.int v8), .val (.long (f1 v5 v6)), .second, .val (.long (f1 v6 v5)), .second, .val (.long (f1 v7 v8)), .second, .val (.int v13), .val (.int v16), .val (.int v19), .val (.int v22), .val (.int v25), .val (.int v28), .val (.int v34), .val (.int v39), .unset]) rfl k) ?_
  show Go p e below _ (T40.setTop (mkF m 209 #[.val (.int p1), .val (.int p2), .val (.int p3), .val (.int p4), .val (.int v5), .val (.int v6), .val (.int v7), .val (.int v8), .val (.long (f1 v5 v6)), .second, .val (.long (f1 v6 v5)), .second, .val (.long (f1 v7 v8)), .second, .val (.int v13), .val (.int v16), .val (.int v19), .val (.int v22), .val (.int v25), .val (.int v28), .val (.int v34), .val (.int v39), .unset] []))
  refine Go.step (fun t k => XS.lload X40.here hx rfl (hb hby at_209) rfl k) ?_
  show Go p e below _ (T40.setTop (mkF m 211 #[.val (.int p1), .val (.int p2), .val (.int p3), .val (.int p4), .val (.int v5), .val (.int v6), .val (.int v7), .val (.int v8), .val (.long (f1 v5 v6)), .second, .val (.long (f1 v6 v5)), .second, .val (.long (f1 v7 v8)), .second, .val (.int v13), .val (.int v16), .val (.int v19), .val (.int v22), .val (.int v25), .val (.int v28), .val (.int v34), .val (.int v39), .unset] [(.long (f1 v5 v6))]))
  refine Go.step (fun t k => XS.lload X40.here hx rfl (hb hby at_211) rfl k) ?_
  show Go p e below _ (T40.setTop (mkF m 213 #[.val (.int p1), .val (.int p2), .val (.int p3), .val (.int p4), .val (.int v5), .val (.int v6), .val (.int v7), .val (.int v8), .val (.long (f1 v5 v6)), .second, .val (.long (f1 v6 v5)), .second, .val (.long (f1 v7 v8)), .second, .val (.int v13), .val (.int v16), .val (.int v19), .val (.int v22), .val (.int v25), .val (.int v28), .val (.int v34), .val (.int v39), .unset] [(.long (f1 v7 v8)), (.long (f1 v5 v6))]))
  refine Go.step (fun t k => XS.lcmp X40.here hx rfl (hb hby at_213) rfl k) ?_
  show Go p e below _ (T40.setTop (mkF m 214 #[.val (.int p1), .val (.int p2), .val (.int p3), .val (.int p4), .val (.int v5), .val (.int v6), .val (.int v7), .val (.int v8), .val (.long (f1 v5 v6)), .second, .val (.long (f1 v6 v5)), .second, .val (.long (f1 v7 v8)), .second, .val (.int v13), .val (.int v16), .val (.int v19), .val (.int v22), .val (.int v25), .val (.int v28), .val (.int v34), .val (.int v39), .unset] [(.int (lcmpW (f1 v5 v6) (f1 v7 v8)))]))
  obtain ⟨v42, hv42⟩ : ∃ z : Int32, z = (if (f1 v5 v6) < (f1 v7 v8) then (1 : Int32) else (0 : Int32)) := ⟨_, rfl⟩
  have J214 : Go p e below (AtF p l e room_1 s m #[(.int p1), (.int p2), (.int p3), (.int p4)] below meth c n0 0 0 h0 (mkF m 222 #[.val (.int p1), .val (.int p2), .val (.int p3), .val (.int p4), .val (.int v5), .val (.int v6), .val (.int v7), .val (.int v8), .val (.long (f1 v5 v6)), .second, .val (.long (f1 v6 v5)), .second, .val (.long (f1 v7 v8)), .second, .val (.int v13), .val (.int v16), .val (.int v19), .val (.int v22), .val (.int v25), .val (.int v28), .val (.int v34), .val (.int v39), .unset] [(.int v42)])) (T40.setTop (mkF m 214 #[.val (.int p1), .val (.int p2), .val (.int p3), .val (.int p4), .val (.int v5), .val (.int v6), .val (.int v7), .val (.int v8), .val (.long (f1 v5 v6)), .second, .val (.long (f1 v6 v5)), .second, .val (.long (f1 v7 v8)), .second, .val (.int v13), .val (.int v16), .val (.int v19), .val (.int v22), .val (.int v25), .val (.int v28), .val (.int v34), .val (.int v39), .unset] [(.int (lcmpW (f1 v5 v6) (f1 v7 v8)))])) := by
    by_cases hc41 : (f1 v5 v6) < (f1 v7 v8)
    · refine Go.step (fun t k => XS.ifNo X40.here hx rfl (hb hby at_214) rfl ((if0 _ _).trans (tlt ((lw_lt _ _).mpr hc41)).2.1) k) ?_
      show Go p e below _ (T40.setTop (mkF m 217 #[.val (.int p1), .val (.int p2), .val (.int p3), .val (.int p4), .val (.int v5), .val (.int v6), .val (.int v7), .val (.int v8), .val (.long (f1 v5 v6)), .second, .val (.long (f1 v6 v5)), .second, .val (.long (f1 v7 v8)), .second, .val (.int v13), .val (.int v16), .val (.int v19), .val (.int v22), .val (.int v25), .val (.int v28), .val (.int v34), .val (.int v39), .unset] []))
      refine Go.step (fun t k => XS.iconst X40.here hx rfl (hb hby at_217)  k) ?_
      show Go p e below _ (T40.setTop (mkF m 218 #[.val (.int p1), .val (.int p2), .val (.int p3), .val (.int p4), .val (.int v5), .val (.int v6), .val (.int v7), .val (.int v8), .val (.long (f1 v5 v6)), .second, .val (.long (f1 v6 v5)), .second, .val (.long (f1 v7 v8)), .second, .val (.int v13), .val (.int v16), .val (.int v19), .val (.int v22), .val (.int v25), .val (.int v28), .val (.int v34), .val (.int v39), .unset] [(.int (1 : Int32))]))
      refine Go.step (fun t k => XS.goto X40.here hx rfl (pc0 := 218) (pc' := 222) rfl (hb hby at_218) (by decide) (by decide) k) ?_
      show Go p e below _ (T40.setTop (mkF m 222 #[.val (.int p1), .val (.int p2), .val (.int p3), .val (.int p4), .val (.int v5), .val (.int v6), .val (.int v7), .val (.int v8), .val (.long (f1 v5 v6)), .second, .val (.long (f1 v6 v5)), .second, .val (.long (f1 v7 v8)), .second, .val (.int v13), .val (.int v16), .val (.int v19), .val (.int v22), .val (.int v25), .val (.int v28), .val (.int v34), .val (.int v39), .unset] [(.int (1 : Int32))]))
      exact Go.here ⟨_, _, by simp only [hv42, if_pos hc41], X40, N40, e40⟩
    · refine Go.step (fun t k => XS.ifYes X40.here hx rfl (pc0 := 214) (pc' := 221) rfl (hb hby at_214) rfl ((if0 _ _).trans (flt (fun q => hc41 ((lw_lt _ _).mp q))).2.1) (by decide) (by decide) k) ?_
      show Go p e below _ (T40.setTop (mkF m 221 #[.val (.int p1), .val (.int p2), .val (.int p3), .val (.int p4), .val (.int v5), .val (.int v6), .val (.int v7), .val (.int v8), .val (.long (f1 v5 v6)), .second, .val (.long (f1 v6 v5)), .second, .val (.long (f1 v7 v8)), .second, .val (.int v13), .val (.int v16), .val (.int v19), .val (.int v22), .val (.int v25), .val (.int v28), .val (.int v34), .val (.int v39), .unset] []))
      refine Go.step (fun t k => XS.iconst X40.here hx rfl (hb hby at_221)  k) ?_
      show Go p e below _ (T40.setTop (mkF m 222 #[.val (.int p1), .val (.int p2), .val (.int p3), .val (.int p4), .val (.int v5), .val (.int v6), .val (.int v7), .val (.int v8), .val (.long (f1 v5 v6)), .second, .val (.long (f1 v6 v5)), .second, .val (.long (f1 v7 v8)), .second, .val (.int v13), .val (.int v16), .val (.int v19), .val (.int v22), .val (.int v25), .val (.int v28), .val (.int v34), .val (.int v39), .unset] [(.int (0 : Int32))]))
      exact Go.here ⟨_, _, by simp only [hv42, if_neg hc41], X40, N40, e40⟩
  obtain ⟨_, st43, T43, Lj43, rfl, X43, N43, e43⟩ := J214
  refine Go.trans st43 ?_
  show Go p e below _ (T43.setTop (mkF m 222 #[.val (.int p1), .val (.int p2), .val (.int p3), .val (.int p4), .val (.int v5), .val (.int v6), .val (.int v7), .val (.int v8), .val (.long (f1 v5 v6)), .second, .val (.long (f1 v6 v5)), .second, .val (.long (f1 v7 v8)), .second, .val (.int v13), .val (.int v16), .val (.int v19), .val (.int v22), .val (.int v25), .val (.int v28), .val (.int v34), .val (.int v39), .unset] [(.int v42)]))
  refine Go.step (fun t k => XS.iload X43.here hx rfl (hb hby at_222) rfl k) ?_
  show Go p e below _ (T43.setTop (mkF m 224 #[.val (.int p1), .val (.int p2), .val (.int p3), .val (.int p4), .val (.int v5), .val (.int v6), .val (.int v7), .val (.int v8), .val (.long (f1 v5 v6)), .second, .val (.long (f1 v6 v5)), .second, .val (.long (f1 v7 v8)), .second, .val (.int v13), .val (.int v16), .val (.int v19), .val (.int v22), .val (.int v25), .val (.int v28), .val (.int v34), .val (.int v39), .unset] [(.int v39), (.int v42)]))
  obtain ⟨v45, hv45⟩ : ∃ z : Int32, z = (if v42 = v39 then (1 : Int32) else (0 : Int32)) := ⟨_, rfl⟩
  have J224 : Go p e below (AtF p l e room_1 s m #[(.int p1), (.int p2), (.int p3), (.int p4)] below meth c n0 0 0 h0 (mkF m 232 #[.val (.int p1), .val (.int p2), .val (.int p3), .val (.int p4), .val (.int v5), .val (.int v6), .val (.int v7), .val (.int v8), .val (.long (f1 v5 v6)), .second, .val (.long (f1 v6 v5)), .second, .val (.long (f1 v7 v8)), .second, .val (.int v13), .val (.int v16), .val (.int v19), .val (.int v22), .val (.int v25), .val (.int v28), .val (.int v34), .val (.int v39), .unset] [(.int v45)])) (T43.setTop (mkF m 224 #[.val (.int p1), .val (.int p2), .val (.int p3), .val (.int p4), .val (.int v5), .val (.int v6), .val (.int v7), .val (.int v8), .val (.long (f1 v5 v6)), .second, .val (.long (f1 v6 v5)), .second, .val (.long (f1 v7 v8)), .second, .val (.int v13), .val (.int v16), .val (.int v19), .val (.int v22), .val (.int v25), .val (.int v28), .val (.int v34), .val (.int v39), .unset] [(.int v39), (.int v42)])) := by
    by_cases hc44 : v42 = v39
    · refine Go.step (fun t k => XS.icmpNo X43.here hx rfl (hb hby at_224) rfl (teq hc44).2 k) ?_
      show Go p e below _ (T43.setTop (mkF m 227 #[.val (.int p1), .val (.int p2), .val (.int p3), .val (.int p4), .val (.int v5), .val (.int v6), .val (.int v7), .val (.int v8), .val (.long (f1 v5 v6)), .second, .val (.long (f1 v6 v5)), .second, .val (.long (f1 v7 v8)), .second, .val (.int v13), .val (.int v16), .val (.int v19), .val (.int v22), .val (.int v25), .val (.int v28), .val (.int v34), .val (.int v39), .unset] []))
      refine Go.step (fun t k => XS.iconst X43.here hx rfl (hb hby at_227)  k) ?_
      show Go p e below _ (T43.setTop (mkF m 228 #[.val (.int p1), .val (.int p2), .val (.int p3), .val (.int p4), .val (.int v5), .val (.int v6), .val (.int v7), .val (.int v8), .val (.long (f1 v5 v6)), .second, .val (.long (f1 v6 v5)), .second, .val (.long (f1 v7 v8)), .second, .val (.int v13), .val (.int v16), .val (.int v19), .val (.int v22), .val (.int v25), .val (.int v28), .val (.int v34), .val (.int v39), .unset] [(.int (1 : Int32))]))
      refine Go.step (fun t k => XS.goto X43.here hx rfl (pc0 := 228) (pc' := 232) rfl (hb hby at_228) (by decide) (by decide) k) ?_
      show Go p e below _ (T43.setTop (mkF m 232 #[.val (.int p1), .val (.int p2), .val (.int p3), .val (.int p4), .val (.int v5), .val (.int v6), .val (.int v7), .val (.int v8), .val (.long (f1 v5 v6)), .second, .val (.long (f1 v6 v5)), .second, .val (.long (f1 v7 v8)), .second, .val (.int v13), .val (.int v16), .val (.int v19), .val (.int v22), .val (.int v25), .val (.int v28), .val (.int v34), .val (.int v39), .unset] [(.int (1 : Int32))]))
      exact Go.here ⟨_, _, by simp only [hv45, if_pos hc44], X43, N43, e43⟩
    · refine Go.step (fun t k => XS.icmpYes X43.here hx rfl (pc0 := 224) (pc' := 231) rfl (hb hby at_224) rfl (feq hc44).2 (by decide) (by decide) k) ?_
      show Go p e below _ (T43.setTop (mkF m 231 #[.val (.int p1), .val (.int p2), .val (.int p3), .val (.int p4), .val (.int v5), .val (.int v6), .val (.int v7), .val (.int v8), .val (.long (f1 v5 v6)), .second, .val (.long (f1 v6 v5)), .second, .val (.long (f1 v7 v8)), .second, .val (.int v13), .val (.int v16), .val (.int v19), .val (.int v22), .val (.int v25), .val (.int v28), .val (.int v34), .val (.int v39), .unset] []))
      refine Go.step (fun t k => XS.iconst X43.here hx rfl (hb hby at_231)  k) ?_
      show Go p e below _ (T43.setTop (mkF m 232 #[.val (.int p1), .val (.int p2), .val (.int p3), .val (.int p4), .val (.int v5), .val (.int v6), .val (.int v7), .val (.int v8), .val (.long (f1 v5 v6)), .second, .val (.long (f1 v6 v5)), .second, .val (.long (f1 v7 v8)), .second, .val (.int v13), .val (.int v16), .val (.int v19), .val (.int v22), .val (.int v25), .val (.int v28), .val (.int v34), .val (.int v39), .unset] [(.int (0 : Int32))]))
      exact Go.here ⟨_, _, by simp only [hv45, if_neg hc44], X43, N43, e43⟩
  obtain ⟨_, st46, T46, Lj46, rfl, X46, N46, e46⟩ := J224
  refine Go.trans st46 ?_
  show Go p e below _ (T46.setTop (mkF m 232 #[.val (.int p1), .val (.int p2), .val (.int p3), .val (.int p4), .val (.int v5), .val (.int v6), .val (.int v7), .val (.int v8), .val (.long (f1 v5 v6)), .second, .val (.long (f1 v6 v5)), .second, .val (.long (f1 v7 v8)), .second, .val (.int v13), .val (.int v16), .val (.int v19), .val (.int v22), .val (.int v25), .val (.int v28), .val (.int v34), .val (.int v39), .unset] [(.int v45)]))
  refine Go.step (fun t k => XS.istore X46.here hx rfl (hb hby at_232) rfl (l' := #[.val (.int p1), .val (.int p2), .val (.int p3), .val (.int p4), .val (.int v5), .val (.int v6), .val (.int v7), .val (.int v8), .val (.long (f1 v5 v6)), .second, .val (.long (f1 v6 v5)), .second, .val (.long (f1 v7 v8)), .second, .val (.int v13), .val (.int v16), .val (.int v19), .val (.int v22), .val (.int v25), .val (.int v28), .val (.int v34), .val (.int v39), .val (.int v45)]) rfl k) ?_
  show Go p e below _ (T46.setTop (mkF m 234 #[.val (.int p1), .val (.int p2), .val (.int p3), .val (.int p4), .val (.int v5), .val (.int v6), .val (.int v7), .val (.int v8), .val (.long (f1 v5 v6)), .second, .val (.long (f1 v6 v5)), .second, .val (.long (f1 v7 v8)), .second, .val (.int v13), .val (.int v16), .val (.int v19), .val (.int v22), .val (.int v25), .val (.int v28), .val (.int v34), .val (.int v39), .val (.int v45)] []))
  refine Go.step (fun t k => XS.iload X46.here hx rfl (hb hby at_234) rfl k) ?_
  show Go p e below _ (T46.setTop (mkF m 236 #[.val (.int p1), .val (.int p2), .val (.int p3), .val (.int p4), .val (.int v5), .val (.int v6), .val (.int v7), .val (.int v8), .val (.long (f1 v5 v6)), .second, .val (.long (f1 v6 v5)), .second, .val (.long (f1 v7 v8)), .second, .val (.int v13), .val (.int v16), .val (.int v19), .val (.int v22), .val (.int v25), .val (.int v28), .val (.int v34), .val (.int v39), .val (.int v45)] [(.int v25)]))
  by_cases hc47 : v25 = (0 : Int32)
  · refine Go.step (fun t k => XS.ifYes X46.here hx rfl (pc0 := 236) (pc' := 258) rfl (hb hby at_236) rfl ((if0 _ _).trans (teq hc47).1) (by decide) (by decide) k) ?_
    show Go p e below _ (T46.setTop (mkF m 258 #[.val (.int p1), .val (.int p2), .val (.int p3), .val (.int p4), .val (.int v5), .val (.int v6), .val (.int v7), .val (.int v8), .val (.long (f1 v5 v6)), .second, .val (.long (f1 v6 v5)), .second, .val (.long (f1 v7 v8)), .second, .val (.int v13), .val (.int v16), .val (.int v19), .val (.int v22), .val (.int v25), .val (.int v28), .val (.int v34), .val (.int v39), .val (.int v45)] []))
    refine Go.step (fun t k => XS.iconst X46.here hx rfl (hb hby at_258)  k) ?_
    show Go p e below _ (T46.setTop (mkF m 259 #[.val (.int p1), .val (.int p2), .val (.int p3), .val (.int p4), .val (.int v5), .val (.int v6), .val (.int v7), .val (.int v8), .val (.long (f1 v5 v6)), .second, .val (.long (f1 v6 v5)), .second, .val (.long (f1 v7 v8)), .second, .val (.int v13), .val (.int v16), .val (.int v19), .val (.int v22), .val (.int v25), .val (.int v28), .val (.int v34), .val (.int v39), .val (.int v45)] [(.int (0 : Int32))]))
    subst hv45
    subst hv42
    subst hv39
    subst hv34
    subst hv28
    subst hv25
    subst hv22
    subst hv19
    subst hv16
    subst hv13
    subst hv8
    subst hv7
    subst hv6
    subst hv5
    exact retGN X46 hx Bd.notSynchronized Bd.returns (t := .boolean) (by simp) (z' := (0 : Int32)) rfl (hb hby at_259) ⟨by first | (simp only [f0, if_pos hc47]; done) | rfl | (simp [f0, if_pos hc47]; done), N46, e46⟩ (by decide) (by decide)
  · refine Go.step (fun t k => XS.ifNo X46.here hx rfl (hb hby at_236) rfl ((if0 _ _).trans (feq hc47).1) k) ?_
    show Go p e below _ (T46.setTop (mkF m 239 #[.val (.int p1), .val (.int p2), .val (.int p3), .val (.int p4), .val (.int v5), .val (.int v6), .val (.int v7), .val (.int v8), .val (.long (f1 v5 v6)), .second, .val (.long (f1 v6 v5)), .second, .val (.long (f1 v7 v8)), .second, .val (.int v13), .val (.int v16), .val (.int v19), .val (.int v22), .val (.int v25), .val (.int v28), .val (.int v34), .val (.int v39), .val (.int v45)] []))
    refine Go.step (fun t k => XS.iload X46.here hx rfl (hb hby at_239) rfl k) ?_
    show Go p e below _ (T46.setTop (mkF m 241 #[.val (.int p1), .val (.int p2), .val (.int p3), .val (.int p4), .val (.int v5), .val (.int v6), .val (.int v7), .val (.int v8), .val (.long (f1 v5 v6)), .second, .val (.long (f1 v6 v5)), .second, .val (.long (f1 v7 v8)), .second, .val (.int v13), .val (.int v16), .val (.int v19), .val (.int v22), .val (.int v25), .val (.int v28), .val (.int v34), .val (.int v39), .val (.int v45)] [(.int v28)]))
    by_cases hc48 : v28 = (0 : Int32)
    · refine Go.step (fun t k => XS.ifYes X46.here hx rfl (pc0 := 241) (pc' := 258) rfl (hb hby at_241) rfl ((if0 _ _).trans (teq hc48).1) (by decide) (by decide) k) ?_
      show Go p e below _ (T46.setTop (mkF m 258 #[.val (.int p1), .val (.int p2), .val (.int p3), .val (.int p4), .val (.int v5), .val (.int v6), .val (.int v7), .val (.int v8), .val (.long (f1 v5 v6)), .second, .val (.long (f1 v6 v5)), .second, .val (.long (f1 v7 v8)), .second, .val (.int v13), .val (.int v16), .val (.int v19), .val (.int v22), .val (.int v25), .val (.int v28), .val (.int v34), .val (.int v39), .val (.int v45)] []))
      refine Go.step (fun t k => XS.iconst X46.here hx rfl (hb hby at_258)  k) ?_
      show Go p e below _ (T46.setTop (mkF m 259 #[.val (.int p1), .val (.int p2), .val (.int p3), .val (.int p4), .val (.int v5), .val (.int v6), .val (.int v7), .val (.int v8), .val (.long (f1 v5 v6)), .second, .val (.long (f1 v6 v5)), .second, .val (.long (f1 v7 v8)), .second, .val (.int v13), .val (.int v16), .val (.int v19), .val (.int v22), .val (.int v25), .val (.int v28), .val (.int v34), .val (.int v39), .val (.int v45)] [(.int (0 : Int32))]))
      subst hv45
      subst hv42
      subst hv39
      subst hv34
      subst hv28
      subst hv25
      subst hv22
      subst hv19
      subst hv16
      subst hv13
      subst hv8
      subst hv7
      subst hv6
      subst hv5
      exact retGN X46 hx Bd.notSynchronized Bd.returns (t := .boolean) (by simp) (z' := (0 : Int32)) rfl (hb hby at_259) ⟨by first | (simp only [f0, if_neg hc47, if_pos hc48]; done) | rfl | (simp [f0, if_neg hc47, if_pos hc48]; done), N46, e46⟩ (by decide) (by decide)
    · refine Go.step (fun t k => XS.ifNo X46.here hx rfl (hb hby at_241) rfl ((if0 _ _).trans (feq hc48).1) k) ?_
      show Go p e below _ (T46.setTop (mkF m 244 #[.val (.int p1), .val (.int p2), .val (.int p3), .val (.int p4), .val (.int v5), .val (.int v6), .val (.int v7), .val (.int v8), .val (.long (f1 v5 v6)), .second, .val (.long (f1 v6 v5)), .second, .val (.long (f1 v7 v8)), .second, .val (.int v13), .val (.int v16), .val (.int v19), .val (.int v22), .val (.int v25), .val (.int v28), .val (.int v34), .val (.int v39), .val (.int v45)] []))
      refine Go.step (fun t k => XS.iload X46.here hx rfl (hb hby at_244) rfl k) ?_
      show Go p e below _ (T46.setTop (mkF m 246 #[.val (.int p1), .val (.int p2), .val (.int p3), .val (.int p4), .val (.int v5), .val (.int v6), .val (.int v7), .val (.int v8), .val (.long (f1 v5 v6)), .second, .val (.long (f1 v6 v5)), .second, .val (.long (f1 v7 v8)), .second, .val (.int v13), .val (.int v16), .val (.int v19), .val (.int v22), .val (.int v25), .val (.int v28), .val (.int v34), .val (.int v39), .val (.int v45)] [(.int v34)]))
      by_cases hc49 : v34 = (0 : Int32)
      · refine Go.step (fun t k => XS.ifYes X46.here hx rfl (pc0 := 246) (pc' := 258) rfl (hb hby at_246) rfl ((if0 _ _).trans (teq hc49).1) (by decide) (by decide) k) ?_
        show Go p e below _ (T46.setTop (mkF m 258 #[.val (.int p1), .val (.int p2), .val (.int p3), .val (.int p4), .val (.int v5), .val (.int v6), .val (.int v7), .val (.int v8), .val (.long (f1 v5 v6)), .second, .val (.long (f1 v6 v5)), .second, .val (.long (f1 v7 v8)), .second, .val (.int v13), .val (.int v16), .val (.int v19), .val (.int v22), .val (.int v25), .val (.int v28), .val (.int v34), .val (.int v39), .val (.int v45)] []))
        refine Go.step (fun t k => XS.iconst X46.here hx rfl (hb hby at_258)  k) ?_
        show Go p e below _ (T46.setTop (mkF m 259 #[.val (.int p1), .val (.int p2), .val (.int p3), .val (.int p4), .val (.int v5), .val (.int v6), .val (.int v7), .val (.int v8), .val (.long (f1 v5 v6)), .second, .val (.long (f1 v6 v5)), .second, .val (.long (f1 v7 v8)), .second, .val (.int v13), .val (.int v16), .val (.int v19), .val (.int v22), .val (.int v25), .val (.int v28), .val (.int v34), .val (.int v39), .val (.int v45)] [(.int (0 : Int32))]))
        subst hv45
        subst hv42
        subst hv39
        subst hv34
        subst hv28
        subst hv25
        subst hv22
        subst hv19
        subst hv16
        subst hv13
        subst hv8
        subst hv7
        subst hv6
        subst hv5
        exact retGN X46 hx Bd.notSynchronized Bd.returns (t := .boolean) (by simp) (z' := (0 : Int32)) rfl (hb hby at_259) ⟨by first | (simp only [f0, if_neg hc47, if_neg hc48, if_pos hc49]; done) | rfl | (simp [f0, if_neg hc47, if_neg hc48, if_pos hc49]; done), N46, e46⟩ (by decide) (by decide)
      · refine Go.step (fun t k => XS.ifNo X46.here hx rfl (hb hby at_246) rfl ((if0 _ _).trans (feq hc49).1) k) ?_
        show Go p e below _ (T46.setTop (mkF m 249 #[.val (.int p1), .val (.int p2), .val (.int p3), .val (.int p4), .val (.int v5), .val (.int v6), .val (.int v7), .val (.int v8), .val (.long (f1 v5 v6)), .second, .val (.long (f1 v6 v5)), .second, .val (.long (f1 v7 v8)), .second, .val (.int v13), .val (.int v16), .val (.int v19), .val (.int v22), .val (.int v25), .val (.int v28), .val (.int v34), .val (.int v39), .val (.int v45)] []))
        refine Go.step (fun t k => XS.iload X46.here hx rfl (hb hby at_249) rfl k) ?_
        show Go p e below _ (T46.setTop (mkF m 251 #[.val (.int p1), .val (.int p2), .val (.int p3), .val (.int p4), .val (.int v5), .val (.int v6), .val (.int v7), .val (.int v8), .val (.long (f1 v5 v6)), .second, .val (.long (f1 v6 v5)), .second, .val (.long (f1 v7 v8)), .second, .val (.int v13), .val (.int v16), .val (.int v19), .val (.int v22), .val (.int v25), .val (.int v28), .val (.int v34), .val (.int v39), .val (.int v45)] [(.int v45)]))
        by_cases hc50 : v45 = (0 : Int32)
        · refine Go.step (fun t k => XS.ifYes X46.here hx rfl (pc0 := 251) (pc' := 258) rfl (hb hby at_251) rfl ((if0 _ _).trans (teq hc50).1) (by decide) (by decide) k) ?_
          show Go p e below _ (T46.setTop (mkF m 258 #[.val (.int p1), .val (.int p2), .val (.int p3), .val (.int p4), .val (.int v5), .val (.int v6), .val (.int v7), .val (.int v8), .val (.long (f1 v5 v6)), .second, .val (.long (f1 v6 v5)), .second, .val (.long (f1 v7 v8)), .second, .val (.int v13), .val (.int v16), .val (.int v19), .val (.int v22), .val (.int v25), .val (.int v28), .val (.int v34), .val (.int v39), .val (.int v45)] []))
          refine Go.step (fun t k => XS.iconst X46.here hx rfl (hb hby at_258)  k) ?_
          show Go p e below _ (T46.setTop (mkF m 259 #[.val (.int p1), .val (.int p2), .val (.int p3), .val (.int p4), .val (.int v5), .val (.int v6), .val (.int v7), .val (.int v8), .val (.long (f1 v5 v6)), .second, .val (.long (f1 v6 v5)), .second, .val (.long (f1 v7 v8)), .second, .val (.int v13), .val (.int v16), .val (.int v19), .val (.int v22), .val (.int v25), .val (.int v28), .val (.int v34), .val (.int v39), .val (.int v45)] [(.int (0 : Int32))]))
          subst hv45
          subst hv42
          subst hv39
          subst hv34
          subst hv28
          subst hv25
          subst hv22
          subst hv19
          subst hv16
          subst hv13
          subst hv8
          subst hv7
          subst hv6
          subst hv5
          exact retGN X46 hx Bd.notSynchronized Bd.returns (t := .boolean) (by simp) (z' := (0 : Int32)) rfl (hb hby at_259) ⟨by first | (simp only [f0, if_neg hc47, if_neg hc48, if_neg hc49, if_pos hc50]; done) | rfl | (simp [f0, if_neg hc47, if_neg hc48, if_neg hc49, if_pos hc50]; done), N46, e46⟩ (by decide) (by decide)
        · refine Go.step (fun t k => XS.ifNo X46.here hx rfl (hb hby at_251) rfl ((if0 _ _).trans (feq hc50).1) k) ?_
          show Go p e below _ (T46.setTop (mkF m 254 #[.val (.int p1), .val (.int p2), .val (.int p3), .val (.int p4), .val (.int v5), .val (.int v6), .val (.int v7), .val (.int v8), .val (.long (f1 v5 v6)), .second, .val (.long (f1 v6 v5)), .second, .val (.long (f1 v7 v8)), .second, .val (.int v13), .val (.int v16), .val (.int v19), .val (.int v22), .val (.int v25), .val (.int v28), .val (.int v34), .val (.int v39), .val (.int v45)] []))
          refine Go.step (fun t k => XS.iconst X46.here hx rfl (hb hby at_254)  k) ?_
          show Go p e below _ (T46.setTop (mkF m 255 #[.val (.int p1), .val (.int p2), .val (.int p3), .val (.int p4), .val (.int v5), .val (.int v6), .val (.int v7), .val (.int v8), .val (.long (f1 v5 v6)), .second, .val (.long (f1 v6 v5)), .second, .val (.long (f1 v7 v8)), .second, .val (.int v13), .val (.int v16), .val (.int v19), .val (.int v22), .val (.int v25), .val (.int v28), .val (.int v34), .val (.int v39), .val (.int v45)] [(.int (1 : Int32))]))
          refine Go.step (fun t k => XS.goto X46.here hx rfl (pc0 := 255) (pc' := 259) rfl (hb hby at_255) (by decide) (by decide) k) ?_
          show Go p e below _ (T46.setTop (mkF m 259 #[.val (.int p1), .val (.int p2), .val (.int p3), .val (.int p4), .val (.int v5), .val (.int v6), .val (.int v7), .val (.int v8), .val (.long (f1 v5 v6)), .second, .val (.long (f1 v6 v5)), .second, .val (.long (f1 v7 v8)), .second, .val (.int v13), .val (.int v16), .val (.int v19), .val (.int v22), .val (.int v25), .val (.int v28), .val (.int v34), .val (.int v39), .val (.int v45)] [(.int (1 : Int32))]))
          subst hv45
          subst hv42
          subst hv39
          subst hv34
          subst hv28
          subst hv25
          subst hv22
          subst hv19
          subst hv16
          subst hv13
          subst hv8
          subst hv7
          subst hv6
          subst hv5
          exact retGN X46 hx Bd.notSynchronized Bd.returns (t := .boolean) (by simp) (z' := (1 : Int32)) rfl (hb hby at_259) ⟨by first | (simp only [f0, if_neg hc47, if_neg hc48, if_neg hc49, if_neg hc50]; done) | rfl | (simp [f0, if_neg hc47, if_neg hc48, if_neg hc49, if_neg hc50]; done), N46, e46⟩ (by decide) (by decide)

theorem or_add (a b : Int32) (ha : 0 ≤ a.toInt) (hb : 0 ≤ b.toInt) : ((a.toInt64 <<< ((32 : Int32) &&& 0x3f).toInt64) ||| b.toInt64).toInt = a.toInt * 4294967296 + b.toInt := by
  have r1 := rng32 a
  have r2 := rng32 b
  have i1 := c_i2l a
  have i2 := c_i2l b
  have s1 := c_lshl a.toInt64 32 32 (by decide)
  have s2 := rng64 (a.toInt64 <<< ((32 : Int32) &&& 0x3f).toInt64)
  have s3 : (a.toInt64 <<< ((32 : Int32) &&& 0x3f).toInt64).toInt = a.toInt * 4294967296 := by rw [i1] at s1; omega
  have h := c_orL (a.toInt64 <<< ((32 : Int32) &&& 0x3f).toInt64) b.toInt64 32 (by decide) 4294967296 (by decide) (by omega) (by omega) (by omega)
  have s4 := rng64 ((a.toInt64 <<< ((32 : Int32) &&& 0x3f).toInt64) ||| b.toInt64)
  omega
theorem mm (a b : Int32) (ha : 0 ≤ a.toInt) (hb : 0 ≤ b.toInt) : (f1 a b).toInt = (if a < b then a else b).toInt * 4294967296 + (if a < b then b else a).toInt := by
  have e2 : f2 a b = if a < b then a else b := by
    unfold f2
    by_cases h : a < b
    · rw [if_pos h, if_neg]; rw [Int32.lt_iff_toInt_lt] at h ⊢; omega
    · rw [if_neg h]; split
      · rfl
      · apply Int32.toInt_inj.mp; rename_i h'; rw [Int32.lt_iff_toInt_lt] at h h'; omega
  have e3 : f3 a b = if a < b then b else a := rfl
  unfold f1
  rw [e2, e3]
  apply or_add
  · split <;> assumption
  · split <;> assumption
theorem own_sw (a b : Int32) : (if b < a then b else a).toInt = (if a < b then a else b).toInt ∧ (if b < a then a else b).toInt = (if a < b then b else a).toInt := by
  simp only [Int32.lt_iff_toInt_lt]
  by_cases h1 : a.toInt < b.toInt
  · rw [if_pos h1, if_pos h1, if_neg (by omega), if_neg (by omega)]; exact ⟨rfl, rfl⟩
  · rw [if_neg h1, if_neg h1]
    by_cases h2 : b.toInt < a.toInt
    · rw [if_pos h2, if_pos h2]; exact ⟨rfl, rfl⟩
    · rw [if_neg h2, if_neg h2]; constructor <;> omega
theorem own_ord (P R : Int64) (lo hi lo2 hi2 : Int32) (hlo : 0 ≤ lo.toInt) (hhi : 0 ≤ hi.toInt) (hlo2 : 0 ≤ lo2.toInt) (hhi2 : 0 ≤ hi2.toInt) (p1 : P.toInt = lo.toInt * 4294967296 + hi.toInt) (p3 : R.toInt = lo2.toInt * 4294967296 + hi2.toInt) :
    (if P < R then (1 : Int32) else 0) = (if lo < lo2 then (1 : Int32) else (if lo = lo2 then (if hi < hi2 then (1 : Int32) else (0 : Int32)) else (0 : Int32))) := by
  have r1 := rng32 lo
  have r2 := rng32 hi
  have r3 := rng32 lo2
  have r4 := rng32 hi2
  by_cases h1 : lo.toInt < lo2.toInt
  · rw [if_pos (Int32.lt_iff_toInt_lt.mpr h1), if_pos]; rw [Int64.lt_iff_toInt_lt]; omega
  · rw [if_neg (fun h => h1 (Int32.lt_iff_toInt_lt.mp h))]
    by_cases h2 : lo = lo2
    · rw [if_pos h2]
      subst h2
      by_cases h3 : hi.toInt < hi2.toInt
      · rw [if_pos (Int32.lt_iff_toInt_lt.mpr h3), if_pos]; rw [Int64.lt_iff_toInt_lt]; omega
      · rw [if_neg (fun h => h3 (Int32.lt_iff_toInt_lt.mp h)), if_neg]; rw [Int64.lt_iff_toInt_lt]; omega
    · rw [if_neg h2, if_neg]
      have : lo.toInt ≠ lo2.toInt := fun h => h2 (Int32.toInt_inj.mp h)
      rw [Int64.lt_iff_toInt_lt]; omega
theorem own_pk (P : Int64) (lo hi : Int32) (hlo : 0 ≤ lo.toInt) (hhi : 0 ≤ hi.toInt) (p1 : P.toInt = lo.toInt * 4294967296 + hi.toInt) : P = lo.toInt64 * (4294967296 : Int64) + hi.toInt64 := by
  have r1 := rng32 lo
  have r2 := rng32 hi
  apply Int64.toInt_inj.mp
  have k5 := c_i2l lo
  have k6 := c_i2l hi
  have k7 : (4294967296 : Int64).toInt = 4294967296 := by decide
  have k1 : (lo.toInt64 * 4294967296).toInt = lo.toInt * 4294967296 := by rw [mulL] <;> rw [k5, k7] <;> omega
  rw [addL] <;> rw [k1, k6] <;> omega
theorem own_f4 (P : Int64) (lo hi : Int32) (hlo : 0 ≤ lo.toInt) (hhi : 0 ≤ hi.toInt) (p1 : P.toInt = lo.toInt * 4294967296 + hi.toInt) : f4 P = lo := by
  have r1 := rng32 lo
  have r2 := rng32 hi
  apply Int32.toInt_inj.mp
  unfold f4
  have k1 := c_lushr P 32 32 (by decide) (by decide)
  have k2 := c_l2i ((P.toUInt64 >>> ((32 : Int32) &&& 0x3f).toInt64.toUInt64).toInt64)
  have k3 := rng32 ((P.toUInt64 >>> ((32 : Int32) &&& 0x3f).toInt64.toUInt64).toInt64).toInt32
  rw [k1] at k2
  omega
theorem own_f5 (P : Int64) (lo hi : Int32) (hlo : 0 ≤ lo.toInt) (hhi : 0 ≤ hi.toInt) (p1 : P.toInt = lo.toInt * 4294967296 + hi.toInt) : f5 P = hi := by
  have r2 := rng32 hi
  apply Int32.toInt_inj.mp
  unfold f5
  have k2 := c_l2i P
  have k3 := rng32 P.toInt32
  omega
theorem law_true (x y u v : Int32) : f0 x y u v = 1 := by
  have ha := (c_and x 2147483647 (by decide)).1
  have hb := (c_and y 2147483647 (by decide)).1
  have hc := (c_and u 2147483647 (by decide)).1
  have hd := (c_and v 2147483647 (by decide)).1
  simp only [f0]
  generalize x &&& (2147483647 : Int32) = a at *
  generalize y &&& (2147483647 : Int32) = b at *
  generalize u &&& (2147483647 : Int32) = c at *
  generalize v &&& (2147483647 : Int32) = d at *
  have p1 := mm a b ha hb
  have p2 := mm b a hb ha
  have p3 := mm c d hc hd
  generalize f1 a b = P at *
  generalize f1 b a = P' at *
  generalize f1 c d = R at *
  have hlo : 0 ≤ (if a < b then a else b).toInt := by split <;> assumption
  have hhi : 0 ≤ (if a < b then b else a).toInt := by split <;> assumption
  have hlo2 : 0 ≤ (if c < d then c else d).toInt := by split <;> assumption
  have hhi2 : 0 ≤ (if c < d then d else c).toInt := by split <;> assumption
  have sw := own_sw a b
  rw [sw.1, sw.2] at p2
  have t2 : P = P' := Int64.toInt_inj.mp (p1.trans p2.symm)
  rw [if_pos (own_pk _ _ _ hlo hhi p1), if_pos t2, own_f4 _ _ _ hlo hhi p1, own_f5 _ _ _ hlo hhi p1, if_pos rfl, if_pos rfl, if_pos (own_ord _ _ _ _ _ _ hlo hhi hlo2 hhi2 p1 p3)]
  decide

set_option maxRecDepth 65536 in
set_option maxHeartbeats 40000000 in
theorem comes_1 {Post : Tables → Env → Array Value → State → Outcome → State → Prop} (hpost : ∀ tb e args s v u, (limb_1_1.after args s (.returned v) u = true ∧ limb_1_2.after args s (.returned v) u = true ∧ True) → FrameEnd s (.returned v) u (Jvm.fieldLocs frame_1_writes args s ++ Jvm.arrayLocs frame_1_arrays args s ++ Jvm.staticLocs frame_1_statics s) 0 0 → Post tb e args s (.returned v) u) :
    ArmFor flags0 classFile x code maxLocals ret World_1 tables_1 room_1 Calls_1 rest_1 Pre_1 Post := by
  intro l hfl _ _ p e ha hc hk s m args below hf hA hF happ hP
  obtain ⟨hcalls, hrest, hpre⟩ := hP
  obtain ⟨-, -, -, hnamed, -, -, -, hat⟩ := (Spec.applies_iff hf).mp happ
  obtain ⟨hg, hn⟩ := and_e (Cond.before_iff.mp (show (Jvm.Cond.and given_1 narrow_1).before args s = true from hpre))
  obtain ⟨g0, hg⟩ := and_e hg
  obtain ⟨ga0, hg⟩ := and_e hg
  obtain ⟨ga1, hg⟩ := and_e hg
  obtain ⟨ga2, hg⟩ := and_e hg
  have ga3 := hg
  obtain ⟨w0, w1, w2, w3, rfl⟩ : ∃ w0 w1 w2 w3 : Value, args = #[w0, w1, w2, w3] := by
    have hs : args.size = 4 := by simpa [Cond.value, given_1] using g0
    obtain ⟨L⟩ := args
    match L, hs with
    | [w0, w1, w2, w3], _ => exact ⟨w0, w1, w2, w3, rfl⟩
  have hw := fun d (hd : d ∈ tables_1) => atoms_spec (ws := Jvm.Cond.code x code maxLocals ret :: tables_1) hat d (List.mem_cons_of_mem _ hd)
  have hfit : Fit s := fun {y c} hc i hi => by
    obtain ⟨ha, rfl⟩ := Array.getElem?_eq_some_iff.mp hc
    have q := List.all_eq_true.mp ((Array.all_eq_true_iff_forall_mem.mp hF) _ (Array.getElem_mem ha)) i (List.mem_range.mpr hi)
    simpa [Array.getElem?_eq_getElem hi] using q
  obtain ⟨i0, ei0⟩ := is_v ga0
  obtain rfl : w0 = (.int i0) := Option.some.inj ei0
  obtain ⟨i1, ei1⟩ := is_v ga1
  obtain rfl : w1 = (.int i1) := Option.some.inj ei1
  obtain ⟨i2, ei2⟩ := is_v ga2
  obtain rfl : w2 = (.int i2) := Option.some.inj ei2
  obtain ⟨i3, ei3⟩ := is_v ga3
  obtain rfl : w3 = (.int i3) := Option.some.inj ei3
  obtain ⟨n, o, h1, h2, h3, v, L, rfl, hQ, hq⟩ := rm0 l s _ hw tables_1 i0 i1 i2 i3  s.heap s.heap.size (Nat.le_refl _)  p e ha hc hk s m _ below hf ((Spec.applies_iff_loose hf).mp happ).1 ⟨rfl, State.Warmed39.refl s, rfl⟩ trivial
  obtain ⟨hv, N, -⟩ := hQ
  rw [law_true i0 i1 i2 i3] at hv
  subst hv
  refine ⟨n, _, h1, h2, h3, hpost _ _ _ _ _ _ ⟨Cond.after_iff.mpr rfl, Cond.after_iff.mpr (eq_i res_at (Term.int_eval (1)) rfl), trivial⟩ ⟨hq.1, hq.2.1, (hq.2.2.sift fun y hy => Or.inr (N y hy)).mono (by decide) (by decide)⟩⟩
theorem main_1_1 : Claimed_1_1 := comes_1 fun _ _ _ _ _ _ h hF => ⟨h.1, hF⟩
theorem main_1_2 : Claimed_1_2 := comes_1 fun _ _ _ _ _ _ h hF => ⟨h.2.1, hF⟩
end Jvm.Pilot.@@N@@
namespace Jvm.Pilot.@@N@@
open Jvm Jvm.ClassFile Sem Op Lib Jvm.Free Jvm.Stand Jvm.Pilot.@@N@@.Jvm.D
/-! MADE BY PROGRAM (witnessworld.py) out of the Statement's table words and the real class files: 10 classes; the members and pool entries that the words name. The judged class is class 1, her method 1. -/
namespace start1
open Jvm.ClassFile
def u (s : String) : CpInfo := .utf8 (stringToUtf16 s)
/-- a pool by its gaps: so many unusable entries, then the entry; so many at the end -/
def gap : Nat → List CpInfo → List CpInfo
  | 0, r => r
  | n + 1, r => .unusable :: gap n r
def poolList (es : List (Nat × CpInfo)) (last : Nat) : List CpInfo := es.foldr (fun e r => gap e.1 (e.2 :: r)) (gap last [])
def pool (es : List (Nat × CpInfo)) (last : Nat) : Array CpInfo := ⟨poolList es last⟩
def fileOf (pool : Array CpInfo) (this : Nat) (attrs : Array Attribute := #[]) (ms : Array MethodInfo := #[]) (fl : Nat := 33) (sup : Nat := 0) (ifs : Array Nat := #[]) (fds : Array FieldInfo := #[]) : ClassFile where
  minorVersion := 0
  majorVersion := 65
  constantPool := pool
  accessFlags := fl
  thisClass := this
  superClass := sup
  interfaces := ifs
  fields := fds
  methods := ms
  attributes := attrs
def plain (name : String) (sup : Option ClassId) : Class where
  name := name
  kind := .ordinary
  loader := none
  accessFlags := 33
  super := sup
  interfaces := #[]
  cf := none
  fields := #[]
  methods := #[]
  instanceTypes := #[]
  staticTypes := #[]
  resolved := #[]
  callSites := []
  init := .initialized
  statics := none
  mirror := none

def pool0 : Array CpInfo := pool [(5, u "<init>"), (0, u "()V"), (1, .class_ 10), (1, u "java/lang/Object")] 113

def k0m0 : Method := { name := "<init>", desc := "()V", sig := { parameters := [], returnType := none }, accessFlags := 1, code := none }
/-- java/lang/Object -/
def k0 : Class := { plain "java/lang/Object" none with
  accessFlags := 33
  interfaces := #[]
  cf := some (fileOf pool0 8 #[] #[{ accessFlags := 1, nameIndex := 5, descriptorIndex := 6, attributes := #[] }] 33 0 #[] #[])
  fields := #[]
  methods := #[k0m0]
  instanceTypes := #[]
  staticTypes := #[]
  resolved := Array.replicate 124 none
  statics := none }

def pool1 : Array CpInfo := pool [(2, .class_ 4), (1, u "java/lang/Object"), (0, u "<init>"), (0, u "()V"), (0, .integer 2147483647), (0, .methodref 9 10), (0, .class_ 11), (0, .nameAndType 12 13), (0, u "com/example/hertzbid/hertzbid/ConflictPairs"), (0, u "of"), (0, u "(II)J"), (0, .long 4294967296), (1, .methodref 9 17), (0, .nameAndType 18 19), (0, u "first"), (0, u "(J)I"), (0, .methodref 9 21), (0, .nameAndType 22 19), (0, u "second"), (0, .class_ 24), (0, u "com/example/hertzbid/hertzbid/ConflictPairsOfPinLaw"), (2, u "law"), (0, u "(IIII)Z")] 3

def k1m0 : Method := { name := "<init>", desc := "()V", sig := { parameters := [], returnType := none }, accessFlags := 2, code := none }
def k1c1 : Code := { maxStack := 6, maxLocals := 23, code := code, exceptionTable := #[], attributes := #[] }
def k1m1 : Method := { name := "law", desc := "(IIII)Z", sig := { parameters := [.int, .int, .int, .int], returnType := some .boolean }, accessFlags := 9, code := some k1c1 }
/-- com/example/hertzbid/hertzbid/ConflictPairsOfPinLaw -/
def k1 : Class := { plain "com/example/hertzbid/hertzbid/ConflictPairsOfPinLaw" (some 0) with
  accessFlags := 49
  interfaces := #[]
  cf := some (fileOf pool1 23 #[] #[{ accessFlags := 2, nameIndex := 5, descriptorIndex := 6, attributes := #[] }, { accessFlags := 9, nameIndex := 27, descriptorIndex := 28, attributes := #[] }] 49 2 #[] #[])
  fields := #[]
  methods := #[k1m0, k1m1]
  instanceTypes := #[]
  staticTypes := #[]
  resolved := Array.replicate 32 none
  statics := none }

def pool2 : Array CpInfo := pool [(2, .class_ 4), (1, u "java/lang/Object"), (0, u "<init>"), (0, u "()V"), (0, .methodref 8 9), (0, .class_ 10), (0, .nameAndType 11 12), (0, u "java/lang/Math"), (0, u "min"), (0, u "(II)I"), (0, .methodref 8 14), (0, .nameAndType 15 12), (0, u "max"), (24, u "first"), (2, .class_ 45), (1, u "com/example/hertzbid/hertzbid/ConflictPairs"), (4, u "second"), (2, u "of"), (0, u "(II)J"), (17, u "(J)I")] 74

def k2m0 : Method := { name := "<init>", desc := "()V", sig := { parameters := [], returnType := none }, accessFlags := 2, code := none }
def k2c1 : Code := { maxStack := 4, maxLocals := 2, code := prog_18_method_2_code, exceptionTable := #[], attributes := #[] }
def k2m1 : Method := { name := "of", desc := "(II)J", sig := { parameters := [.int, .int], returnType := some .long }, accessFlags := 8, code := some k2c1 }
def k2c2 : Code := { maxStack := 3, maxLocals := 2, code := prog_18_method_3_code, exceptionTable := #[], attributes := #[] }
def k2m2 : Method := { name := "first", desc := "(J)I", sig := { parameters := [.long], returnType := some .int }, accessFlags := 8, code := some k2c2 }
def k2c3 : Code := { maxStack := 2, maxLocals := 2, code := prog_18_method_4_code, exceptionTable := #[], attributes := #[] }
def k2m3 : Method := { name := "second", desc := "(J)I", sig := { parameters := [.long], returnType := some .int }, accessFlags := 8, code := some k2c3 }
/-- com/example/hertzbid/hertzbid/ConflictPairs -/
def k2 : Class := { plain "com/example/hertzbid/hertzbid/ConflictPairs" (some 0) with
  accessFlags := 48
  interfaces := #[]
  cf := some (fileOf pool2 43 #[] #[{ accessFlags := 2, nameIndex := 5, descriptorIndex := 6, attributes := #[] }, { accessFlags := 8, nameIndex := 53, descriptorIndex := 54, attributes := #[] }, { accessFlags := 8, nameIndex := 40, descriptorIndex := 72, attributes := #[] }, { accessFlags := 8, nameIndex := 50, descriptorIndex := 72, attributes := #[] }] 48 2 #[] #[])
  fields := #[]
  methods := #[k2m0, k2m1, k2m2, k2m3]
  instanceTypes := #[]
  staticTypes := #[]
  resolved := Array.replicate 147 none
  statics := none }

def pool3 : Array CpInfo := pool [(1, .class_ 2), (0, u "java/lang/Math"), (1, .class_ 6), (1, u "java/lang/Object"), (0, u "<init>"), (0, u "()V"), (89, .class_ 100), (1, u "java/lang/Math$RandomNumberGeneratorHolder"), (71, u "negativeZeroFloatBits"), (0, u "J"), (2, u "negativeZeroDoubleBits"), (21, u "max"), (2, u "min"), (43, u "$assertionsDisabled"), (0, u "Z"), (88, u "(II)I"), (2, u "twoToTheDoubleScaleDown"), (0, u "D"), (4, u "twoToTheDoubleScaleUp"), (9, u "E"), (3, u "PI"), (2, u "TAU"), (2, u "DEGREES_TO_RADIANS"), (0, u "RADIANS_TO_DEGREES")] 94

def k3m0 : Method := { name := "<init>", desc := "()V", sig := { parameters := [], returnType := none }, accessFlags := 2, code := none }
def k3c1 : Code := { maxStack := 2, maxLocals := 2, code := jdk_29_method_65_code, exceptionTable := #[], attributes := #[] }
def k3m1 : Method := { name := "max", desc := "(II)I", sig := { parameters := [.int, .int], returnType := some .int }, accessFlags := 9, code := some k3c1 }
def k3c2 : Code := { maxStack := 2, maxLocals := 2, code := jdk_29_method_69_code, exceptionTable := #[], attributes := #[] }
def k3m2 : Method := { name := "min", desc := "(II)I", sig := { parameters := [.int, .int], returnType := some .int }, accessFlags := 9, code := some k3c2 }
/-- java/lang/Math -/
def k3 : Class := { plain "java/lang/Math" (some 0) with
  accessFlags := 49
  interfaces := #[]
  cf := some (fileOf pool3 1 #[.nestMembers #[98]] #[{ accessFlags := 2, nameIndex := 7, descriptorIndex := 8, attributes := #[] }, { accessFlags := 9, nameIndex := 198, descriptorIndex := 335, attributes := #[] }, { accessFlags := 9, nameIndex := 201, descriptorIndex := 335, attributes := #[] }] 49 4 #[] #[{ accessFlags := 25, nameIndex := 354, descriptorIndex := 339, attributes := #[] }, { accessFlags := 25, nameIndex := 358, descriptorIndex := 339, attributes := #[] }, { accessFlags := 25, nameIndex := 361, descriptorIndex := 339, attributes := #[] }, { accessFlags := 26, nameIndex := 364, descriptorIndex := 339, attributes := #[] }, { accessFlags := 26, nameIndex := 365, descriptorIndex := 339, attributes := #[] }, { accessFlags := 26, nameIndex := 172, descriptorIndex := 173, attributes := #[] }, { accessFlags := 26, nameIndex := 176, descriptorIndex := 173, attributes := #[] }, { accessFlags := 8, nameIndex := 344, descriptorIndex := 339, attributes := #[] }, { accessFlags := 8, nameIndex := 338, descriptorIndex := 339, attributes := #[] }, { accessFlags := 4120, nameIndex := 245, descriptorIndex := 246, attributes := #[] }])
  fields := #[{ name := "E", type := .double, accessFlags := 25, slot := 0, constantValue := 0 }, { name := "PI", type := .double, accessFlags := 25, slot := 1, constantValue := 0 }, { name := "TAU", type := .double, accessFlags := 25, slot := 2, constantValue := 0 }, { name := "DEGREES_TO_RADIANS", type := .double, accessFlags := 26, slot := 3, constantValue := 0 }, { name := "RADIANS_TO_DEGREES", type := .double, accessFlags := 26, slot := 4, constantValue := 0 }, { name := "negativeZeroFloatBits", type := .long, accessFlags := 26, slot := 5, constantValue := 0 }, { name := "negativeZeroDoubleBits", type := .long, accessFlags := 26, slot := 6, constantValue := 0 }, { name := "twoToTheDoubleScaleUp", type := .double, accessFlags := 8, slot := 7, constantValue := 0 }, { name := "twoToTheDoubleScaleDown", type := .double, accessFlags := 8, slot := 8, constantValue := 0 }, { name := "$assertionsDisabled", type := .boolean, accessFlags := 4120, slot := 9, constantValue := 0 }]
  methods := #[k3m0, k3m1, k3m2]
  instanceTypes := #[]
  staticTypes := #[.double, .double, .double, .double, .double, .long, .long, .double, .double, .boolean]
  resolved := Array.replicate 460 none
  statics := none }

def pool4 : Array CpInfo := pool [(1, u "java/lang/Cloneable"), (0, .class_ 1), (0, u "java/lang/Object"), (0, .class_ 3)] 3

/-- java/lang/Cloneable -/
def k4 : Class := { plain "java/lang/Cloneable" (some 0) with
  accessFlags := 1537
  interfaces := #[]
  cf := some (fileOf pool4 2 #[] #[] 1537 4 #[] #[])
  fields := #[]
  methods := #[]
  instanceTypes := #[]
  staticTypes := #[]
  resolved := Array.replicate 8 none
  statics := none }

def pool5 : Array CpInfo := pool [(1, u "java/io/Serializable"), (0, .class_ 1), (0, u "java/lang/Object"), (0, .class_ 3)] 3

/-- java/io/Serializable -/
def k5 : Class := { plain "java/io/Serializable" (some 0) with
  accessFlags := 1537
  interfaces := #[]
  cf := some (fileOf pool5 2 #[] #[] 1537 4 #[] #[])
  fields := #[]
  methods := #[]
  instanceTypes := #[]
  staticTypes := #[]
  resolved := Array.replicate 8 none
  statics := none }

/-- the primitive byte -/
def k6 : Class := { plain "byte" none with kind := .primitive 'B', accessFlags := 0x411 }
/-- [B -/
def k7 : Class := { plain "[B" (some 0) with kind := .array 6 .byte, interfaces := #[4, 5], accessFlags := 1041 }

/-- the primitive int -/
def k8 : Class := { plain "int" none with kind := .primitive 'I', accessFlags := 0x411 }
/-- [I -/
def k9 : Class := { plain "[I" (some 0) with kind := .array 8 .int, interfaces := #[4, 5], accessFlags := 1041 }

def heap : Heap := #[]
def classes : Array Class := #[k0, k1, k2, k3, k4, k5, k6, k7, k8, k9]
def interned : List (Array UInt16 × Addr) := []
def slotsUsed : Nat := 0
def theMethod : MethodId := ⟨1, 1⟩
def args0 : Array Value := #[.int 5, .int 7, .int 100, .int 3]
def aboutOver (below : List Frame) : State where
  vm := { classes := classes, interned := interned.toArray }
  heap := heap
  slotsUsed := slotsUsed
  threads := #[{ frames := .invoking theMethod args0 :: below }]
def below0 : List Frame := [.native { method := ⟨0, 0⟩, args := #[] }]
def about1 : State := aboutOver below0
def p0 : Program := .bare "" "" ""
def e0 : Env := launch0.env 0 0 0
theorem w_frames : about1.frames = Frame.invoking theMethod args0 :: below0 := rfl
set_option maxRecDepth 65536 in
theorem w_args : argsFit about1.vm theMethod args0 = true := by decide +kernel
set_option maxRecDepth 65536 in
theorem w_heap : heapFits about1 = true := by decide +kernel
set_option maxRecDepth 65536 in
theorem w_runnable : about1.curStatus? = some .runnable := by decide +kernel
set_option maxRecDepth 65536 in
theorem w_alone : about1.alone = true := by decide +kernel
set_option maxRecDepth 65536 in
theorem w_named : about1.methodNamed? x = some theMethod := by decide +kernel
set_option maxRecDepth 65536 in
theorem w_hears : about1.hears theMethod below0 = true := by decide +kernel
set_option maxRecDepth 65536 in
theorem w_ripe : about1.ripe theMethod args0 below0 = true := by decide +kernel
theorem w_running : about1.status = .running := rfl
set_option maxRecDepth 65536 in
theorem w_room : about1.hasRoom e0.platform room_1 = true :=
  launch0.hasRoom_least _ room_1 (by decide +kernel) (by decide +kernel) (by decide +kernel) (by decide +kernel) (by decide +kernel) (by decide +kernel)
theorem allAtoms_all (ts : List Jvm.Cond) (a : Array Jvm.Value) (st : Jvm.State) : (allAtoms ts).before a st = ts.all (fun c => c.before a st) := by
  induction ts with
  | nil => rfl
  | cons c t ih =>
    show (Jvm.Cond.and c (allAtoms t)).before a st = _
    rw [Jvm.Cond.before_and, ih, List.all_cons]
def words1 : List Jvm.Cond := Jvm.Cond.code x code maxLocals ret :: tables_1
/-- a 'code' word, met by the world's own term for the bytes: nothing is compared byte by byte -/
theorem code_word {y : MethodName} {bytes : ByteArray} {mx : Nat} {rt : Option FieldType} {a : Array Value} {s : State} {m : MethodId} {meth : Method} {c : Code} (h1 : s.methodNamed? y = some m) (h2 : s.vm.method? m = some meth) (h3 : meth.code = some c) (h4 : c.code = bytes)
    (h5 : (c.maxLocals == mx && c.exceptionTable.isEmpty && decide (c.maxStack ≤ mostOperands) && decide (meth.sig.returnType = rt) && !meth.locks && decide (parseMethodDescriptor y.desc = some meth.sig)) = true) : (Jvm.Cond.code y bytes mx rt).before a s = true := by
  simp only [Bool.and_eq_true, beq_iff_eq, Bool.not_eq_true', decide_eq_true_eq] at h5
  obtain ⟨⟨⟨⟨⟨g1, g2⟩, g3⟩, g4⟩, g5⟩, g6⟩ := h5
  simp [Cond.before, Cond.holds, Cond.value, h1, h2, h3, h4, g1, g2, g3, g4, g5, g6]
def isCode : Jvm.Cond → Bool
  | .code _ _ _ _ => true
  | _ => false
theorem all_split {L : List Jvm.Cond} {P : Jvm.Cond → Bool} (h1 : L.all (fun c => isCode c || P c) = true) (h2 : ∀ c ∈ L.filter isCode, P c = true) : L.all P = true := by
  refine List.all_eq_true.mpr fun c hc => ?_
  have h := List.all_eq_true.mp h1 c hc
  rcases Bool.eq_false_or_eq_true (isCode c) with hi | hi
  · exact h2 c (List.mem_filter.mpr ⟨hc, hi⟩)
  · simpa [hi] using h
set_option maxRecDepth 65536 in
theorem w_c0 : (Jvm.Cond.code x code maxLocals ret).before args0 about1 = true := code_word (m := ⟨1, 1⟩) (meth := k1m1) (c := k1c1) (by decide +kernel) rfl rfl rfl (by decide +kernel)
set_option maxRecDepth 65536 in
theorem w_c1 : (Jvm.Cond.code ({ cls := "com/example/hertzbid/hertzbid/ConflictPairs", name := "of", desc := "(II)J" } : Jvm.MethodName) prog_18_method_2_code (2 : Nat) (Option.some Jvm.ClassFile.FieldType.long)).before args0 about1 = true := code_word (m := ⟨2, 1⟩) (meth := k2m1) (c := k2c1) (by decide +kernel) rfl rfl rfl (by decide +kernel)
set_option maxRecDepth 65536 in
theorem w_c2 : (Jvm.Cond.code ({ cls := "java/lang/Math", name := "min", desc := "(II)I" } : Jvm.MethodName) jdk_29_method_69_code (2 : Nat) (Option.some Jvm.ClassFile.FieldType.int)).before args0 about1 = true := code_word (m := ⟨3, 2⟩) (meth := k3m2) (c := k3c2) (by decide +kernel) rfl rfl rfl (by decide +kernel)
set_option maxRecDepth 65536 in
theorem w_c3 : (Jvm.Cond.code ({ cls := "java/lang/Math", name := "max", desc := "(II)I" } : Jvm.MethodName) jdk_29_method_65_code (2 : Nat) (Option.some Jvm.ClassFile.FieldType.int)).before args0 about1 = true := code_word (m := ⟨3, 1⟩) (meth := k3m1) (c := k3c1) (by decide +kernel) rfl rfl rfl (by decide +kernel)
set_option maxRecDepth 65536 in
theorem w_c4 : (Jvm.Cond.code ({ cls := "com/example/hertzbid/hertzbid/ConflictPairs", name := "first", desc := "(J)I" } : Jvm.MethodName) prog_18_method_3_code (2 : Nat) (Option.some Jvm.ClassFile.FieldType.int)).before args0 about1 = true := code_word (m := ⟨2, 2⟩) (meth := k2m2) (c := k2c2) (by decide +kernel) rfl rfl rfl (by decide +kernel)
set_option maxRecDepth 65536 in
theorem w_c5 : (Jvm.Cond.code ({ cls := "com/example/hertzbid/hertzbid/ConflictPairs", name := "second", desc := "(J)I" } : Jvm.MethodName) prog_18_method_4_code (2 : Nat) (Option.some Jvm.ClassFile.FieldType.int)).before args0 about1 = true := code_word (m := ⟨2, 3⟩) (meth := k2m3) (c := k2c3) (by decide +kernel) rfl rfl rfl (by decide +kernel)
def codes1 : List Jvm.Cond := [Jvm.Cond.code x code maxLocals ret, Jvm.Cond.code ({ cls := "com/example/hertzbid/hertzbid/ConflictPairs", name := "of", desc := "(II)J" } : Jvm.MethodName) prog_18_method_2_code (2 : Nat) (Option.some Jvm.ClassFile.FieldType.long), Jvm.Cond.code ({ cls := "java/lang/Math", name := "min", desc := "(II)I" } : Jvm.MethodName) jdk_29_method_69_code (2 : Nat) (Option.some Jvm.ClassFile.FieldType.int), Jvm.Cond.code ({ cls := "java/lang/Math", name := "max", desc := "(II)I" } : Jvm.MethodName) jdk_29_method_65_code (2 : Nat) (Option.some Jvm.ClassFile.FieldType.int), Jvm.Cond.code ({ cls := "com/example/hertzbid/hertzbid/ConflictPairs", name := "first", desc := "(J)I" } : Jvm.MethodName) prog_18_method_3_code (2 : Nat) (Option.some Jvm.ClassFile.FieldType.int), Jvm.Cond.code ({ cls := "com/example/hertzbid/hertzbid/ConflictPairs", name := "second", desc := "(J)I" } : Jvm.MethodName) prog_18_method_4_code (2 : Nat) (Option.some Jvm.ClassFile.FieldType.int)]
set_option maxRecDepth 65536 in
theorem codes_eq : words1.filter isCode = codes1 := rfl
theorem w_codes : ∀ c ∈ words1.filter isCode, c.before args0 about1 = true := by
  rw [codes_eq]
  intro c hc
  simp only [codes1, List.mem_cons, List.not_mem_nil, or_false] at hc
  rcases hc with rfl | rfl | rfl | rfl | rfl | rfl
  · exact w_c0
  · exact w_c1
  · exact w_c2
  · exact w_c3
  · exact w_c4
  · exact w_c5
set_option maxRecDepth 65536 in
theorem w_t1 : words1.all (fun c => isCode c || c.before args0 about1) = true := by decide +kernel
theorem w_tables : (allAtoms (Jvm.Cond.code x code maxLocals ret :: tables_1)).before args0 about1 = true := by
  rw [allAtoms_all]
  show words1.all (fun c => c.before args0 about1) = true
  refine all_split ?_ w_codes
  rw [w_t1]
set_option maxRecDepth 65536 in
theorem w_case : (Jvm.Cond.and given_1 narrow_1).before args0 about1 = true := by decide +kernel
theorem w_applies : (headSpec (Jvm.Cond.code x code maxLocals ret :: tables_1) room_1).applies x e0.platform about1 = true :=
  (Spec.applies_iff w_frames).mpr ⟨w_running, w_runnable, w_alone, w_named, w_hears, w_ripe, w_room, w_tables⟩
theorem atStart : AtStart classFile x code maxLocals ret World_1 tables_1 room_1 Calls_1 rest_1 Pre_1 launch0 p0 e0 about1 theMethod args0 below0 :=
  ⟨lists_1, trivial, launch0.admits_env _ _ _, launch0.least_env, fairChoices_fair.cas, fairChoices_fair.clock, w_frames, w_args, w_heap, w_applies, trivial, trivial, w_case⟩
end start1
theorem witness_1 : WitnessClaimed_1 := ⟨start1.p0, start1.e0, start1.about1, start1.theMethod, start1.args0, start1.below0, start1.atStart⟩
end Jvm.Pilot.@@N@@
