import JvmDerived
import JvmDerived.Pilot.@@N@@Statement
import JvmDerived.Pilot.@@N@@Code
set_option linter.unusedVariables false
set_option linter.unusedSimpArgs false
namespace Jvm.OwnKit
open Sem ClassFile Op Lib Jvm.Stand Jvm.Free Jvm.LawKit Jvm.RoadKit
/-- from S the run comes to a state of which Φ holds -/
def Go (p : Program) (e : Env) (below : List Frame) (Φ : State → Prop) (S : State) : Prop := ∃ u, Steps p.tables e below S u ∧ Φ u
theorem Go.step {p : Program} {e : Env} {below : List Frame} {Φ : State → Prop} {S S' : State} (h : ∀ t, Steps p.tables e below S' t → Steps p.tables e below S t) (k : Go p e below Φ S') : Go p e below Φ S := by
  obtain ⟨u, q, r⟩ := k
  exact ⟨u, h u q, r⟩
theorem Go.trans {p : Program} {e : Env} {below : List Frame} {Φ : State → Prop} {S S' : State} (h : Steps p.tables e below S S') (k : Go p e below Φ S') : Go p e below Φ S := by
  obtain ⟨u, q, r⟩ := k
  exact ⟨u, Steps.trans h q, r⟩
theorem Go.here {p : Program} {e : Env} {below : List Frame} {Φ : State → Prop} {S : State} (k : Φ S) : Go p e below Φ S := ⟨S, Steps.refl _, k⟩
/-- the end of a body -/
def FinQ (below : List Frame) (s : State) (Q : Option Value → Heap → List Loc → Prop) (k n : Nat) (u : State) : Prop :=
  ∃ o, u.status = .running ∧ Ended u below o ∧ ∃ v L, o = .returned v ∧ Q v u.heap L ∧ FrameEnd s o u L k n
theorem Go.done {p : Program} {e : Env} {below : List Frame} {s : State} {Q : Option Value → Heap → List Loc → Prop} {k n : Nat} {S : State} (h : Go p e below (FinQ below s Q k n) S) :
    ∃ s₂ o, Steps p.tables e below S s₂ ∧ s₂.status = .running ∧ Ended s₂ below o ∧ ∃ v L, o = .returned v ∧ Q v s₂.heap L ∧ FrameEnd s o s₂ L k n := by
  obtain ⟨u, q, o, r1, r2, r3⟩ := h
  exact ⟨u, o, q, r1, r2, r3⟩
section New
variable {p : Program} {l : Launch} {e : Env} {R : Room} {s : State} {m : MethodId} {args : Array Value} {below : List Frame} {meth : Method} {c : Code} {T : State} {locs : List Loc} {cells slots : Nat}
/-- the run stands at the frame F, in a heap h -/
def AtF (p : Program) (l : Launch) (e : Env) (R : Room) (s : State) (m : MethodId) (args : Array Value) (below : List Frame) (meth : Method) (c : Code) (n0 cells slots : Nat) (h : Heap) (F : JFrame) (u : State) : Prop :=
  ∃ T' locs', u = T'.setTop F ∧ Stand p l e R s m args below meth c T' locs' cells slots ∧ Fr n0 locs' ∧ T'.heap = h
theorem retG {pc : Nat} {Ls : Array Slot} {w : Value} {t : FieldType} {i : Instr} {rest : List Value} {Q : Option Value → Heap → List Loc → Prop} {k n : Nat}
    (X : Stand p l e R s m args below meth c T locs cells slots) (hx : p.tables.exec = Jvm.exec) (hlocks : meth.locks = false) (hret : meth.sig.returnType = some t) (hn : narrow t w = w)
    (hi : (i = .ireturn ∧ (t = .int ∨ t = .boolean ∨ t = .byte ∨ t = .char ∨ t = .short) ∧ ∃ z, w = .int z) ∨ (i = .lreturn ∧ t = .long ∧ ∃ z, w = .long z) ∨ (i = .dreturn ∧ t = .double ∧ ∃ z, w = .double z) ∨ (i = .freturn ∧ t = .float ∧ ∃ z, w = .float z) ∨ (i = .areturn ∧ t.isReference = true ∧ w.isRef = true))
    (hd : decode c.code pc = .ok (i, 1)) (hQ : Q (some w) T.heap locs) (hc : cells ≤ k) (hs : slots ≤ n) : Go p e below (FinQ below s Q k n) (T.setTop (mkF m pc Ls (w :: rest))) := by
  obtain ⟨fs, hr, hrun, hended, hW, hsame⟩ := X.leave (v := some w) (fun h => by rw [hret] at h; cases h) hlocks
  exact ⟨_, retOut X hx hret hn hi hd hr, _, hrun, hended, _, _, rfl, hQ, ⟨_, rfl⟩, hW, hsame.mono hc hs⟩
theorem retGI {pc : Nat} {Ls : Array Slot} {z : Int32} {rest : List Value} {Q : Option Value → Heap → List Loc → Prop} {k n : Nat}
    (X : Stand p l e R s m args below meth c T locs cells slots) (hx : p.tables.exec = Jvm.exec) (hlocks : meth.locks = false) (hret : meth.sig.returnType = some .int)
    (hd : decode c.code pc = .ok (.ireturn, 1)) (hQ : Q (some (.int z)) T.heap locs) (hc : cells ≤ k) (hs : slots ≤ n) : Go p e below (FinQ below s Q k n) (T.setTop (mkF m pc Ls (.int z :: rest))) :=
  retG X hx hlocks hret rfl (Or.inl ⟨rfl, Or.inl rfl, _, rfl⟩) hd hQ hc hs
theorem retGJ {pc : Nat} {Ls : Array Slot} {z : Int64} {rest : List Value} {Q : Option Value → Heap → List Loc → Prop} {k n : Nat}
    (X : Stand p l e R s m args below meth c T locs cells slots) (hx : p.tables.exec = Jvm.exec) (hlocks : meth.locks = false) (hret : meth.sig.returnType = some .long)
    (hd : decode c.code pc = .ok (.lreturn, 1)) (hQ : Q (some (.long z)) T.heap locs) (hc : cells ≤ k) (hs : slots ≤ n) : Go p e below (FinQ below s Q k n) (T.setTop (mkF m pc Ls (.long z :: rest))) :=
  retG X hx hlocks hret rfl (Or.inr (Or.inl ⟨rfl, rfl, _, rfl⟩)) hd hQ hc hs
theorem retGR {pc : Nat} {Ls : Array Slot} {a : Addr} {t : FieldType} {rest : List Value} {Q : Option Value → Heap → List Loc → Prop} {k n : Nat}
    (X : Stand p l e R s m args below meth c T locs cells slots) (hx : p.tables.exec = Jvm.exec) (hlocks : meth.locks = false) (hret : meth.sig.returnType = some t) (ht : t.isReference = true) (hn : narrow t (.ref a) = .ref a)
    (hd : decode c.code pc = .ok (.areturn, 1)) (hQ : Q (some (.ref a)) T.heap locs) (hc : cells ≤ k) (hs : slots ≤ n) : Go p e below (FinQ below s Q k n) (T.setTop (mkF m pc Ls (.ref a :: rest))) :=
  retG X hx hlocks hret hn (Or.inr (Or.inr (Or.inr (Or.inr ⟨rfl, ht, rfl⟩)))) hd hQ hc hs
theorem retGN {pc : Nat} {Ls : Array Slot} {z z' : Int32} {t : FieldType} {rest : List Value} {Q : Option Value → Heap → List Loc → Prop} {k n : Nat}
    (X : Stand p l e R s m args below meth c T locs cells slots) (hx : p.tables.exec = Jvm.exec) (hlocks : meth.locks = false) (hret : meth.sig.returnType = some t) (ht : t = .boolean ∨ t = .byte ∨ t = .char ∨ t = .short) (hz : nar t z = z')
    (hd : decode c.code pc = .ok (.ireturn, 1)) (hQ : Q (some (.int z')) T.heap locs) (hc : cells ≤ k) (hs : slots ≤ n) : Go p e below (FinQ below s Q k n) (T.setTop (mkF m pc Ls (.int z :: rest))) := by
  subst hz
  obtain ⟨fs, hr, hrun, hended, hW, hsame⟩ := X.leave (v := some (.int (nar t z))) (fun h => by rw [hret] at h; cases h) hlocks
  exact ⟨_, retN X hx hret ht hd hr, _, hrun, hended, _, _, rfl, hQ, ⟨_, rfl⟩, hW, hsame.mono hc hs⟩
theorem retGV {pc : Nat} {Ls : Array Slot} {Q : Option Value → Heap → List Loc → Prop} {k n : Nat}
    (X : Stand p l e R s m args below meth c T locs cells slots) (hx : p.tables.exec = Jvm.exec) (hlocks : meth.locks = false) (hret : meth.sig.returnType = none)
    (hd : decode c.code pc = .ok (.return_, 1)) (hQ : Q none T.heap locs) (hc : cells ≤ k) (hs : slots ≤ n) : Go p e below (FinQ below s Q k n) (T.setTop (mkF m pc Ls [])) := by
  obtain ⟨fs, hr, hrun, hended, hW, hsame⟩ := X.leave (v := none) (fun _ => rfl) hlocks
  exact ⟨_, X.returnOut hx hret hd hr, _, hrun, hended, _, _, rfl, hQ, ⟨_, rfl⟩, hW, hsame.mono hc hs⟩
end New
/-- a body that writes nothing and returns r -/
def QP (r : Value) (h0 : Heap) (n0 : Nat) (v : Option Value) (h : Heap) (L : List Loc) : Prop := v = some r ∧ Fr n0 L ∧ h = h0
def QV (h0 : Heap) (n0 : Nat) (v : Option Value) (h : Heap) (L : List Loc) : Prop := v = none ∧ Fr n0 L ∧ h = h0
/-- a law: it returns r and writes nothing old -/
def QL (r : Value) (n0 : Nat) (v : Option Value) (h : Heap) (L : List Loc) : Prop := v = some r ∧ Fr n0 L
theorem remI (x y : Int32) : x - (x / y) * y = x % y := by
  rw [← Int32.toInt_inj, Int32.toInt_sub, Int32.toInt_mul, Int32.toInt_div, Int32.toInt_mod]
  have h := Int.tmod_add_mul_tdiv x.toInt y.toInt
  have r : (x.toInt.tmod y.toInt).bmod (2 ^ 32) = x.toInt.tmod y.toInt := by
    have := Int32.toInt_bmod (x % y)
    rwa [Int32.toInt_mod] at this
  rw [← r]
  have e : ((x.toInt.tdiv y.toInt).bmod (2 ^ 32) * y.toInt).bmod (2 ^ 32) = (x.toInt.tdiv y.toInt * y.toInt).bmod (2 ^ 32) := by simp
  rw [e, Int.sub_bmod_bmod]
  congr 1
  have := Int.mul_comm (x.toInt.tdiv y.toInt) y.toInt
  omega
theorem addI {x y : Int32} (h1 : -2147483648 ≤ x.toInt + y.toInt) (h2 : x.toInt + y.toInt < 2147483648) : (x + y).toInt = x.toInt + y.toInt := by have := c_iadd x y; have := rng32 (x + y); omega
theorem subI {x y : Int32} (h1 : -2147483648 ≤ x.toInt - y.toInt) (h2 : x.toInt - y.toInt < 2147483648) : (x - y).toInt = x.toInt - y.toInt := by have := c_isub x y; have := rng32 (x - y); omega
theorem mulI {x y : Int32} (h1 : -2147483648 ≤ x.toInt * y.toInt) (h2 : x.toInt * y.toInt < 2147483648) : (x * y).toInt = x.toInt * y.toInt := by have := c_imul x y; have := rng32 (x * y); omega
theorem addL {x y : Int64} (h1 : -9223372036854775808 ≤ x.toInt + y.toInt) (h2 : x.toInt + y.toInt < 9223372036854775808) : (x + y).toInt = x.toInt + y.toInt := by have := c_ladd x y; have := rng64 (x + y); omega
theorem subL {x y : Int64} (h1 : -9223372036854775808 ≤ x.toInt - y.toInt) (h2 : x.toInt - y.toInt < 9223372036854775808) : (x - y).toInt = x.toInt - y.toInt := by have := c_lsub x y; have := rng64 (x - y); omega
theorem mulL {x y : Int64} (h1 : -9223372036854775808 ≤ x.toInt * y.toInt) (h2 : x.toInt * y.toInt < 9223372036854775808) : (x * y).toInt = x.toInt * y.toInt := by have := c_lmul x y; have := rng64 (x * y); omega
theorem modI {x y : Int32} (d : Int) (hy : y.toInt = d) (hx : 0 ≤ x.toInt) : (x % y).toInt = x.toInt % d := by rw [Int32.toInt_mod, hy]; exact (tr _ _).1 hx
theorem modL {x y : Int64} (d : Int) (hy : y.toInt = d) (hx : 0 ≤ x.toInt) : (x % y).toInt = x.toInt % d := by rw [Int64.toInt_mod, hy]; exact (tr _ _).1 hx
end Jvm.OwnKit
namespace Jvm.Pilot.@@N@@
open Jvm Jvm.ClassFile Sem Op Lib Jvm.Free Jvm.Stand Jvm.LawKit Jvm.RoadKit Jvm.OwnKit Bundle Jvm.Pilot.@@N@@.Jvm.D
theorem d1_0 : decode jdk_29_method_65_code 0 = .ok (.iload_n 0, 1) := by decide +kernel
theorem d1_1 : decode jdk_29_method_65_code 1 = .ok (.iload_n 1, 1) := by decide +kernel
theorem d1_2 : decode jdk_29_method_65_code 2 = .ok (.if_icmp .lt 7, 3) := by decide +kernel
theorem d1_9 : decode jdk_29_method_65_code 9 = .ok (.iload_n 1, 1) := by decide +kernel
theorem d1_10 : decode jdk_29_method_65_code 10 = .ok (.ireturn, 1) := by decide +kernel
theorem d1_5 : decode jdk_29_method_65_code 5 = .ok (.iload_n 0, 1) := by decide +kernel
theorem d1_6 : decode jdk_29_method_65_code 6 = .ok (.goto 4, 3) := by decide +kernel
theorem ef_1 (m : MethodId) (p1 : Int32) (p2 : Int32) : entryFrame m #[(.int p1), (.int p2)] 2 = mkF m 0 #[.val (.int p1), .val (.int p2)] [] := by first | (simp [entryFrame, mkF, argsToLocals, Value.category]; done) | rfl
def f1 (p1 : Int32) (p2 : Int32) : Int32 := (if p1 < p2 then p2 else p1)
set_option maxRecDepth 65536 in
set_option maxHeartbeats 40000000 in
theorem rm1 (l : Launch) (Z : State) (a0 : Array Value) (hw : ∀ d ∈ tables_1, d.before a0 Z = true) (ws : List Jvm.Cond) (p1 : Int32) (p2 : Int32) (h0 : Heap) (n0 : Nat) (Z0 : n0 ≤ h0.size) :
    MetFree l (⟨"java/lang/Math", "max", "(II)I"⟩ : MethodName) (head1 (Jvm.Cond.code (⟨"java/lang/Math", "max", "(II)I"⟩ : MethodName) jdk_29_method_65_code 2 (some .int) :: ws) ({ frames := 0, cells := 0, slots := 0, locals := 0 } : Room)) (fun a U => a = #[(.int p1), (.int p2)] ∧ Z.Warmed39 U.vm ∧ U.heap = h0) (fun _ _ _ _ _ => True) (fun _ U o U' => ∃ v L, o = .returned v ∧ QP (.int (f1 p1 p2)) h0 n0 v U'.heap L ∧ FrameEnd U o U' L ({ frames := 0, cells := 0, slots := 0, locals := 0 } : Room).cells ({ frames := 0, cells := 0, slots := 0, locals := 0 } : Room).slots) := by
  refine MetFree.of_bodySF (Jvm.Free.JP.mathPlain rfl (by decide +kernel)) hisR ?_
  intro p e s m args below meth c s₁ Bd hml0 hP hK
  obtain ⟨rfl, hZ, hh⟩ := hP
  have hx := Bd.exec
  have hby := Bd.bytes
  have hml : c.maxLocals = 2 := hml0
  have hown : s.vm.findClass "java/lang/Math" = some m.cls := findClass_of_methodNamed Bd.named
  have hnm := (name_of_methodNamed Bd.named Bd.method).1
  have X0 : Stand p l e ({ frames := 0, cells := 0, slots := 0, locals := 0 } : Room) s m #[(.int p1), (.int p2)] below meth c s₁ [] 0 0 := Stand.of_body Bd
  have e0 : s₁.heap = h0 := by rw [← hh, Bd.state]; rfl
  have N0 := Fr.nil n0
  refine Go.done (Go.step (fun t k => castTop (ef_1 m p1 p2) k) ?_)
  show Go p e below _ (s₁.setTop (mkF m 0 #[.val (.int p1), .val (.int p2)] []))
  refine Go.step (fun t k => XS.iloadN X0.here hx rfl (hb hby d1_0) rfl k) ?_
  show Go p e below _ (s₁.setTop (mkF m 1 #[.val (.int p1), .val (.int p2)] [(.int p1)]))
  refine Go.step (fun t k => XS.iloadN X0.here hx rfl (hb hby d1_1) rfl k) ?_
  show Go p e below _ (s₁.setTop (mkF m 2 #[.val (.int p1), .val (.int p2)] [(.int p2), (.int p1)]))
  by_cases hc3 : p1 < p2
  · refine Go.step (fun t k => XS.icmpYes X0.here hx rfl (pc0 := 2) (pc' := 9) rfl (hb hby d1_2) rfl (tlt hc3).1 (by decide) (by decide) k) ?_
    show Go p e below _ (s₁.setTop (mkF m 9 #[.val (.int p1), .val (.int p2)] []))
    refine Go.step (fun t k => XS.iloadN X0.here hx rfl (hb hby d1_9) rfl k) ?_
    show Go p e below _ (s₁.setTop (mkF m 10 #[.val (.int p1), .val (.int p2)] [(.int p2)]))
    exact retGI X0 hx Bd.notSynchronized Bd.returns (hb hby d1_10) ⟨by first | (simp only [f1, if_pos hc3]; done) | rfl | (simp [f1, if_pos hc3]; done), N0, e0⟩ (by decide) (by decide)
  · refine Go.step (fun t k => XS.icmpNo X0.here hx rfl (hb hby d1_2) rfl (flt hc3).1 k) ?_
    show Go p e below _ (s₁.setTop (mkF m 5 #[.val (.int p1), .val (.int p2)] []))
    refine Go.step (fun t k => XS.iloadN X0.here hx rfl (hb hby d1_5) rfl k) ?_
    show Go p e below _ (s₁.setTop (mkF m 6 #[.val (.int p1), .val (.int p2)] [(.int p1)]))
    refine Go.step (fun t k => XS.goto X0.here hx rfl (pc0 := 6) (pc' := 10) rfl (hb hby d1_6) (by decide) (by decide) k) ?_
    show Go p e below _ (s₁.setTop (mkF m 10 #[.val (.int p1), .val (.int p2)] [(.int p1)]))
    exact retGI X0 hx Bd.notSynchronized Bd.returns (hb hby d1_10) ⟨by first | (simp only [f1, if_neg hc3]; done) | rfl | (simp [f1, if_neg hc3]; done), N0, e0⟩ (by decide) (by decide)
theorem d2_0 : decode prog_48_method_11_code 0 = .ok (.iload_n 0, 1) := by decide +kernel
theorem d2_1 : decode prog_48_method_11_code 1 = .ok (.i2l, 1) := by decide +kernel
theorem d2_2 : decode prog_48_method_11_code 2 = .ok (.ldc2_w 64, 3) := by decide +kernel
theorem d2_5 : decode prog_48_method_11_code 5 = .ok (.land, 1) := by decide +kernel
theorem d2_6 : decode prog_48_method_11_code 6 = .ok (.iload_n 2, 1) := by decide +kernel
theorem d2_7 : decode prog_48_method_11_code 7 = .ok (.i2l, 1) := by decide +kernel
theorem d2_8 : decode prog_48_method_11_code 8 = .ok (.ldc2_w 64, 3) := by decide +kernel
theorem d2_11 : decode prog_48_method_11_code 11 = .ok (.land, 1) := by decide +kernel
theorem d2_12 : decode prog_48_method_11_code 12 = .ok (.lmul, 1) := by decide +kernel
theorem d2_13 : decode prog_48_method_11_code 13 = .ok (.bipush 32, 2) := by decide +kernel
theorem d2_15 : decode prog_48_method_11_code 15 = .ok (.lushr, 1) := by decide +kernel
theorem d2_16 : decode prog_48_method_11_code 16 = .ok (.lstore 4, 2) := by decide +kernel
theorem d2_18 : decode prog_48_method_11_code 18 = .ok (.iload_n 0, 1) := by decide +kernel
theorem d2_19 : decode prog_48_method_11_code 19 = .ok (.iload_n 1, 1) := by decide +kernel
theorem d2_20 : decode prog_48_method_11_code 20 = .ok (.imul, 1) := by decide +kernel
theorem d2_21 : decode prog_48_method_11_code 21 = .ok (.lload 4, 2) := by decide +kernel
theorem d2_23 : decode prog_48_method_11_code 23 = .ok (.l2i, 1) := by decide +kernel
theorem d2_24 : decode prog_48_method_11_code 24 = .ok (.iload_n 3, 1) := by decide +kernel
theorem d2_25 : decode prog_48_method_11_code 25 = .ok (.imul, 1) := by decide +kernel
theorem d2_26 : decode prog_48_method_11_code 26 = .ok (.isub, 1) := by decide +kernel
theorem d2_27 : decode prog_48_method_11_code 27 = .ok (.iload_n 3, 1) := by decide +kernel
theorem d2_28 : decode prog_48_method_11_code 28 = .ok (.isub, 1) := by decide +kernel
theorem d2_29 : decode prog_48_method_11_code 29 = .ok (.istore 6, 2) := by decide +kernel
theorem d2_31 : decode prog_48_method_11_code 31 = .ok (.iload 6, 2) := by decide +kernel
theorem d2_33 : decode prog_48_method_11_code 33 = .ok (.iload 6, 2) := by decide +kernel
theorem d2_35 : decode prog_48_method_11_code 35 = .ok (.bipush 31, 2) := by decide +kernel
theorem d2_37 : decode prog_48_method_11_code 37 = .ok (.ishr, 1) := by decide +kernel
theorem d2_38 : decode prog_48_method_11_code 38 = .ok (.iload_n 3, 1) := by decide +kernel
theorem d2_39 : decode prog_48_method_11_code 39 = .ok (.iand, 1) := by decide +kernel
theorem d2_40 : decode prog_48_method_11_code 40 = .ok (.iadd, 1) := by decide +kernel
theorem d2_41 : decode prog_48_method_11_code 41 = .ok (.ireturn, 1) := by decide +kernel
theorem ef_2 (m : MethodId) (p1 : Int32) (p2 : Int32) (p3 : Int32) (p4 : Int32) : entryFrame m #[(.int p1), (.int p2), (.int p3), (.int p4)] 7 = mkF m 0 #[.val (.int p1), .val (.int p2), .val (.int p3), .val (.int p4), .unset, .unset, .unset] [] := by first | (simp [entryFrame, mkF, argsToLocals, Value.category]; done) | rfl
theorem pn_0 : plainName "com/example/tinwire/tinwire/json/Transform" = true := by first | (simp [plainName, overriddenIn]; done) | decide +kernel
def f2 (p1 : Int32) (p2 : Int32) (p3 : Int32) (p4 : Int32) : Int32 := ((((p1 * p2) - (((((((p1.toInt64) &&& (4294967295 : Int64)) * ((p3.toInt64) &&& (4294967295 : Int64))).toUInt64 >>> ((32 : Int32) &&& 0x3f).toInt64.toUInt64).toInt64).toInt32) * p4)) - p4) + (((((p1 * p2) - (((((((p1.toInt64) &&& (4294967295 : Int64)) * ((p3.toInt64) &&& (4294967295 : Int64))).toUInt64 >>> ((32 : Int32) &&& 0x3f).toInt64.toUInt64).toInt64).toInt32) * p4)) - p4) >>> ((31 : Int32) &&& 31)) &&& p4))
set_option maxRecDepth 65536 in
set_option maxHeartbeats 40000000 in
theorem rm2 (l : Launch) (Z : State) (a0 : Array Value) (hw : ∀ d ∈ tables_1, d.before a0 Z = true) (ws : List Jvm.Cond) (p1 : Int32) (p2 : Int32) (p3 : Int32) (p4 : Int32) (h0 : Heap) (n0 : Nat) (Z0 : n0 ≤ h0.size) :
    MetFree l (⟨"com/example/tinwire/tinwire/json/Transform", "multiply", "(IIII)I"⟩ : MethodName) (head1 (Jvm.Cond.code (⟨"com/example/tinwire/tinwire/json/Transform", "multiply", "(IIII)I"⟩ : MethodName) prog_48_method_11_code 7 (some .int) :: ws) ({ frames := 0, cells := 0, slots := 0, locals := 0 } : Room)) (fun a U => a = #[(.int p1), (.int p2), (.int p3), (.int p4)] ∧ Z.Warmed39 U.vm ∧ U.heap = h0) (fun _ _ _ _ _ => True) (fun _ U o U' => ∃ v L, o = .returned v ∧ QP (.int (f2 p1 p2 p3 p4)) h0 n0 v U'.heap L ∧ FrameEnd U o U' L ({ frames := 0, cells := 0, slots := 0, locals := 0 } : Room).cells ({ frames := 0, cells := 0, slots := 0, locals := 0 } : Room).slots) := by
  refine MetFree.of_bodySF (plainFor_of_name pn_0) hisR ?_
  intro p e s m args below meth c s₁ Bd hml0 hP hK
  obtain ⟨rfl, hZ, hh⟩ := hP
  have hx := Bd.exec
  have hby := Bd.bytes
  have hml : c.maxLocals = 7 := hml0
  have hown : s.vm.findClass "com/example/tinwire/tinwire/json/Transform" = some m.cls := findClass_of_methodNamed Bd.named
  have hnm := (name_of_methodNamed Bd.named Bd.method).1
  have X0 : Stand p l e ({ frames := 0, cells := 0, slots := 0, locals := 0 } : Room) s m #[(.int p1), (.int p2), (.int p3), (.int p4)] below meth c s₁ [] 0 0 := Stand.of_body Bd
  have e0 : s₁.heap = h0 := by rw [← hh, Bd.state]; rfl
  have N0 := Fr.nil n0
  refine Go.done (Go.step (fun t k => castTop (ef_2 m p1 p2 p3 p4) k) ?_)
  show Go p e below _ (s₁.setTop (mkF m 0 #[.val (.int p1), .val (.int p2), .val (.int p3), .val (.int p4), .unset, .unset, .unset] []))
  refine Go.step (fun t k => XS.iloadN X0.here hx rfl (hb hby d2_0) rfl k) ?_
  show Go p e below _ (s₁.setTop (mkF m 1 #[.val (.int p1), .val (.int p2), .val (.int p3), .val (.int p4), .unset, .unset, .unset] [(.int p1)]))
  refine Go.step (fun t k => XS.i2l X0.here hx rfl (hb hby d2_1) rfl k) ?_
  show Go p e below _ (s₁.setTop (mkF m 2 #[.val (.int p1), .val (.int p2), .val (.int p3), .val (.int p4), .unset, .unset, .unset] [(.long (p1.toInt64))]))
  refine Go.step (X0.ldc2Long hx hown (mvT hZ (hw _ (List.mem_of_getElem? (i := 9) rfl))) (g := (mkF m 2 #[.val (.int p1), .val (.int p2), .val (.int p3), .val (.int p4), .unset, .unset, .unset] [(.long (p1.toInt64))])) rfl (hb hby d2_2)) ?_
  show Go p e below _ (s₁.setTop (mkF m 5 #[.val (.int p1), .val (.int p2), .val (.int p3), .val (.int p4), .unset, .unset, .unset] [(.long (4294967295 : Int64)), (.long (p1.toInt64))]))
  refine Go.step (fun t k => XS.land X0.here hx rfl (hb hby d2_5) rfl k) ?_
  show Go p e below _ (s₁.setTop (mkF m 6 #[.val (.int p1), .val (.int p2), .val (.int p3), .val (.int p4), .unset, .unset, .unset] [(.long ((p1.toInt64) &&& (4294967295 : Int64)))]))
  refine Go.step (fun t k => XS.iloadN X0.here hx rfl (hb hby d2_6) rfl k) ?_
  show Go p e below _ (s₁.setTop (mkF m 7 #[.val (.int p1), .val (.int p2), .val (.int p3), .val (.int p4), .unset, .unset, .unset] [(.int p3), (.long ((p1.toInt64) &&& (4294967295 : Int64)))]))
  refine Go.step (fun t k => XS.i2l X0.here hx rfl (hb hby d2_7) rfl k) ?_
  show Go p e below _ (s₁.setTop (mkF m 8 #[.val (.int p1), .val (.int p2), .val (.int p3), .val (.int p4), .unset, .unset, .unset] [(.long (p3.toInt64)), (.long ((p1.toInt64) &&& (4294967295 : Int64)))]))
  refine Go.step (X0.ldc2Long hx hown (mvT hZ (hw _ (List.mem_of_getElem? (i := 9) rfl))) (g := (mkF m 8 #[.val (.int p1), .val (.int p2), .val (.int p3), .val (.int p4), .unset, .unset, .unset] [(.long (p3.toInt64)), (.long ((p1.toInt64) &&& (4294967295 : Int64)))])) rfl (hb hby d2_8)) ?_
  show Go p e below _ (s₁.setTop (mkF m 11 #[.val (.int p1), .val (.int p2), .val (.int p3), .val (.int p4), .unset, .unset, .unset] [(.long (4294967295 : Int64)), (.long (p3.toInt64)), (.long ((p1.toInt64) &&& (4294967295 : Int64)))]))
  refine Go.step (fun t k => XS.land X0.here hx rfl (hb hby d2_11) rfl k) ?_
  show Go p e below _ (s₁.setTop (mkF m 12 #[.val (.int p1), .val (.int p2), .val (.int p3), .val (.int p4), .unset, .unset, .unset] [(.long ((p3.toInt64) &&& (4294967295 : Int64))), (.long ((p1.toInt64) &&& (4294967295 : Int64)))]))
  refine Go.step (fun t k => XS.lmul X0.here hx rfl (hb hby d2_12) rfl k) ?_
  show Go p e below _ (s₁.setTop (mkF m 13 #[.val (.int p1), .val (.int p2), .val (.int p3), .val (.int p4), .unset, .unset, .unset] [(.long (((p1.toInt64) &&& (4294967295 : Int64)) * ((p3.toInt64) &&& (4294967295 : Int64))))]))
  refine Go.step (fun t k => XS.bipush X0.here hx rfl (hb hby d2_13)  k) ?_
  show Go p e below _ (s₁.setTop (mkF m 15 #[.val (.int p1), .val (.int p2), .val (.int p3), .val (.int p4), .unset, .unset, .unset] [(.int (32 : Int32)), (.long (((p1.toInt64) &&& (4294967295 : Int64)) * ((p3.toInt64) &&& (4294967295 : Int64))))]))
  refine Go.step (fun t k => XS.lushr X0.here hx rfl (hb hby d2_15) rfl k) ?_
  show Go p e below _ (s₁.setTop (mkF m 16 #[.val (.int p1), .val (.int p2), .val (.int p3), .val (.int p4), .unset, .unset, .unset] [(.long (((((p1.toInt64) &&& (4294967295 : Int64)) * ((p3.toInt64) &&& (4294967295 : Int64))).toUInt64 >>> ((32 : Int32) &&& 0x3f).toInt64.toUInt64).toInt64))]))
  obtain ⟨v5, hv5⟩ : ∃ z : Int64, z = (((((p1.toInt64) &&& (4294967295 : Int64)) * ((p3.toInt64) &&& (4294967295 : Int64))).toUInt64 >>> ((32 : Int32) &&& 0x3f).toInt64.toUInt64).toInt64) := ⟨_, rfl⟩
  rw [← hv5]
  show Go p e below _ (s₁.setTop (mkF m 16 #[.val (.int p1), .val (.int p2), .val (.int p3), .val (.int p4), .unset, .unset, .unset] [(.long v5)]))
  refine Go.step (fun t k => XS.lstore X0.here hx rfl (hb hby d2_16) rfl (l' := #[.val (.int p1), .val (.int p2), .val (.int p3), .val (.int p4), .val (.long v5), .second, .unset]) rfl k) ?_
  show Go p e below _ (s₁.setTop (mkF m 18 #[.val (.int p1), .val (.int p2), .val (.int p3), .val (.int p4), .val (.long v5), .second, .unset] []))
  refine Go.step (fun t k => XS.iloadN X0.here hx rfl (hb hby d2_18) rfl k) ?_
  show Go p e below _ (s₁.setTop (mkF m 19 #[.val (.int p1), .val (.int p2), .val (.int p3), .val (.int p4), .val (.long v5), .second, .unset] [(.int p1)]))
  refine Go.step (fun t k => XS.iloadN X0.here hx rfl (hb hby d2_19) rfl k) ?_
  show Go p e below _ (s₁.setTop (mkF m 20 #[.val (.int p1), .val (.int p2), .val (.int p3), .val (.int p4), .val (.long v5), .second, .unset] [(.int p2), (.int p1)]))
  refine Go.step (fun t k => XS.imul X0.here hx rfl (hb hby d2_20) rfl k) ?_
  show Go p e below _ (s₁.setTop (mkF m 21 #[.val (.int p1), .val (.int p2), .val (.int p3), .val (.int p4), .val (.long v5), .second, .unset] [(.int (p1 * p2))]))
  refine Go.step (fun t k => XS.lload X0.here hx rfl (hb hby d2_21) rfl k) ?_
  show Go p e below _ (s₁.setTop (mkF m 23 #[.val (.int p1), .val (.int p2), .val (.int p3), .val (.int p4), .val (.long v5), .second, .unset] [(.long v5), (.int (p1 * p2))]))
  refine Go.step (fun t k => XS.l2i X0.here hx rfl (hb hby d2_23) rfl k) ?_
  show Go p e below _ (s₁.setTop (mkF m 24 #[.val (.int p1), .val (.int p2), .val (.int p3), .val (.int p4), .val (.long v5), .second, .unset] [(.int (v5.toInt32)), (.int (p1 * p2))]))
  refine Go.step (fun t k => XS.iloadN X0.here hx rfl (hb hby d2_24) rfl k) ?_
  show Go p e below _ (s₁.setTop (mkF m 25 #[.val (.int p1), .val (.int p2), .val (.int p3), .val (.int p4), .val (.long v5), .second, .unset] [(.int p4), (.int (v5.toInt32)), (.int (p1 * p2))]))
  refine Go.step (fun t k => XS.imul X0.here hx rfl (hb hby d2_25) rfl k) ?_
  show Go p e below _ (s₁.setTop (mkF m 26 #[.val (.int p1), .val (.int p2), .val (.int p3), .val (.int p4), .val (.long v5), .second, .unset] [(.int ((v5.toInt32) * p4)), (.int (p1 * p2))]))
  refine Go.step (fun t k => XS.isub X0.here hx rfl (hb hby d2_26) rfl k) ?_
  show Go p e below _ (s₁.setTop (mkF m 27 #[.val (.int p1), .val (.int p2), .val (.int p3), .val (.int p4), .val (.long v5), .second, .unset] [(.int ((p1 * p2) - ((v5.toInt32) * p4)))]))
  refine Go.step (fun t k => XS.iloadN X0.here hx rfl (hb hby d2_27) rfl k) ?_
  show Go p e below _ (s₁.setTop (mkF m 28 #[.val (.int p1), .val (.int p2), .val (.int p3), .val (.int p4), .val (.long v5), .second, .unset] [(.int p4), (.int ((p1 * p2) - ((v5.toInt32) * p4)))]))
  refine Go.step (fun t k => XS.isub X0.here hx rfl (hb hby d2_28) rfl k) ?_
  show Go p e below _ (s₁.setTop (mkF m 29 #[.val (.int p1), .val (.int p2), .val (.int p3), .val (.int p4), .val (.long v5), .second, .unset] [(.int (((p1 * p2) - ((v5.toInt32) * p4)) - p4))]))
  obtain ⟨v6, hv6⟩ : ∃ z : Int32, z = (((p1 * p2) - ((v5.toInt32) * p4)) - p4) := ⟨_, rfl⟩
  rw [← hv6]
  show Go p e below _ (s₁.setTop (mkF m 29 #[.val (.int p1), .val (.int p2), .val (.int p3), .val (.int p4), .val (.long v5), .second, .unset] [(.int v6)]))
  refine Go.step (fun t k => XS.istore X0.here hx rfl (hb hby d2_29) rfl (l' := #[.val (.int p1), .val (.int p2), .val (.int p3), .val (.int p4), .val (.long v5), .second, .val (.int v6)]) rfl k) ?_
  show Go p e below _ (s₁.setTop (mkF m 31 #[.val (.int p1), .val (.int p2), .val (.int p3), .val (.int p4), .val (.long v5), .second, .val (.int v6)] []))
  refine Go.step (fun t k => XS.iload X0.here hx rfl (hb hby d2_31) rfl k) ?_
  show Go p e below _ (s₁.setTop (mkF m 33 #[.val (.int p1), .val (.int p2), .val (.int p3), .val (.int p4), .val (.long v5), .second, .val (.int v6)] [(.int v6)]))
  refine Go.step (fun t k => XS.iload X0.here hx rfl (hb hby d2_33) rfl k) ?_
  show Go p e below _ (s₁.setTop (mkF m 35 #[.val (.int p1), .val (.int p2), .val (.int p3), .val (.int p4), .val (.long v5), .second, .val (.int v6)] [(.int v6), (.int v6)]))
  refine Go.step (fun t k => XS.bipush X0.here hx rfl (hb hby d2_35)  k) ?_
  show Go p e below _ (s₁.setTop (mkF m 37 #[.val (.int p1), .val (.int p2), .val (.int p3), .val (.int p4), .val (.long v5), .second, .val (.int v6)] [(.int (31 : Int32)), (.int v6), (.int v6)]))
  refine Go.step (fun t k => XS.ishr X0.here hx rfl (hb hby d2_37) rfl k) ?_
  show Go p e below _ (s₁.setTop (mkF m 38 #[.val (.int p1), .val (.int p2), .val (.int p3), .val (.int p4), .val (.long v5), .second, .val (.int v6)] [(.int (v6 >>> ((31 : Int32) &&& 31))), (.int v6)]))
  refine Go.step (fun t k => XS.iloadN X0.here hx rfl (hb hby d2_38) rfl k) ?_
  show Go p e below _ (s₁.setTop (mkF m 39 #[.val (.int p1), .val (.int p2), .val (.int p3), .val (.int p4), .val (.long v5), .second, .val (.int v6)] [(.int p4), (.int (v6 >>> ((31 : Int32) &&& 31))), (.int v6)]))
  refine Go.step (fun t k => XS.iand X0.here hx rfl (hb hby d2_39) rfl k) ?_
  show Go p e below _ (s₁.setTop (mkF m 40 #[.val (.int p1), .val (.int p2), .val (.int p3), .val (.int p4), .val (.long v5), .second, .val (.int v6)] [(.int ((v6 >>> ((31 : Int32) &&& 31)) &&& p4)), (.int v6)]))
  refine Go.step (fun t k => XS.iadd X0.here hx rfl (hb hby d2_40) rfl k) ?_
  show Go p e below _ (s₁.setTop (mkF m 41 #[.val (.int p1), .val (.int p2), .val (.int p3), .val (.int p4), .val (.long v5), .second, .val (.int v6)] [(.int (v6 + ((v6 >>> ((31 : Int32) &&& 31)) &&& p4)))]))
  subst hv6
  subst hv5
  exact retGI X0 hx Bd.notSynchronized Bd.returns (hb hby d2_41) ⟨by first | rfl | (simp only [f2]; done) | (simp [f2]; done), N0, e0⟩ (by decide) (by decide)
theorem pd_0 : parseMethodDescriptor "(II)I" = some ⟨[.int, .int], some .int⟩ := by decide +kernel
theorem pd_1 : parseMethodDescriptor "(IIII)I" = some ⟨[.int, .int, .int, .int], some .int⟩ := by decide +kernel
theorem ef_0 (m : MethodId) (p1 : Int32) (p2 : Int32) (p3 : Int32) : entryFrame m #[(.int p1), (.int p2), (.int p3)] maxLocals = mkF m 0 #[.val (.int p1), .val (.int p2), .val (.int p3), .unset, .unset, .unset, .unset, .unset, .unset, .unset, .unset] [] := by first | (simp [entryFrame, mkF, argsToLocals, Value.category, maxLocals]; done) | rfl
theorem pn_1 : plainName "com/example/tinwire/tinwire/json/TransformMultiplyPinLaw" = true := by first | (simp [plainName, overriddenIn]; done) | decide +kernel
def f0 (p1 : Int32) (p2 : Int32) (p3 : Int32) : Int32 := (if ((f2 p1 ((p2 &&& (2147483647 : Int32)) % (f1 (1 : Int32) (p3 &&& (2147483647 : Int32)))) ((((((p2 &&& (2147483647 : Int32)) % (f1 (1 : Int32) (p3 &&& (2147483647 : Int32)))).toInt64) <<< ((32 : Int32) &&& 0x3f).toInt64) / ((f1 (1 : Int32) (p3 &&& (2147483647 : Int32))).toInt64)).toInt32) (f1 (1 : Int32) (p3 &&& (2147483647 : Int32)))).toInt64) = (((((p1.toInt64) &&& (4294967295 : Int64)) % ((f1 (1 : Int32) (p3 &&& (2147483647 : Int32))).toInt64)) * (((p2 &&& (2147483647 : Int32)) % (f1 (1 : Int32) (p3 &&& (2147483647 : Int32)))).toInt64)) % ((f1 (1 : Int32) (p3 &&& (2147483647 : Int32))).toInt64)) then (1 : Int32) else (0 : Int32))
set_option maxRecDepth 65536 in
set_option maxHeartbeats 40000000 in
theorem rm0 (l : Launch) (Z : State) (a0 : Array Value) (hw : ∀ d ∈ tables_1, d.before a0 Z = true) (ws : List Jvm.Cond) (p1 : Int32) (p2 : Int32) (p3 : Int32) (h0 : Heap) (n0 : Nat) (Z0 : n0 ≤ h0.size) (hnz14 : ¬ ((f1 (1 : Int32) (p3 &&& (2147483647 : Int32))) = (0 : Int32))) (hnz25 : ¬ (((f1 (1 : Int32) (p3 &&& (2147483647 : Int32))).toInt64) = (0 : Int64))) (hnz52 : ¬ (((f1 (1 : Int32) (p3 &&& (2147483647 : Int32))).toInt64) = (0 : Int64))) (hnz59 : ¬ (((f1 (1 : Int32) (p3 &&& (2147483647 : Int32))).toInt64) = (0 : Int64))) :
    MetFree l x (head1 (Jvm.Cond.code x code maxLocals ret :: ws) room_1) (fun a U => a = #[(.int p1), (.int p2), (.int p3)] ∧ Z.Warmed39 U.vm ∧ U.heap = h0) (fun _ _ _ _ _ => True) (fun _ U o U' => ∃ v L, o = .returned v ∧ QP (.int (f0 p1 p2 p3)) h0 n0 v U'.heap L ∧ FrameEnd U o U' L room_1.cells room_1.slots) := by
  refine MetFree.of_bodySF (plainFor_of_name pn_1) hisR ?_
  intro p e s m args below meth c s₁ Bd hml0 hP hK
  obtain ⟨rfl, hZ, hh⟩ := hP
  have hx := Bd.exec
  have hby := Bd.bytes
  have hml : c.maxLocals = 11 := hml0
  have hown : s.vm.findClass "com/example/tinwire/tinwire/json/TransformMultiplyPinLaw" = some m.cls := findClass_of_methodNamed Bd.named
  have hnm := (name_of_methodNamed Bd.named Bd.method).1
  have X0 : Stand p l e room_1 s m #[(.int p1), (.int p2), (.int p3)] below meth c s₁ [] 0 0 := Stand.of_body Bd
  have e0 : s₁.heap = h0 := by rw [← hh, Bd.state]; rfl
  have N0 := Fr.nil n0
  refine Go.done (Go.step (fun t k => castTop (ef_0 m p1 p2 p3) k) ?_)
  show Go p e below _ (s₁.setTop (mkF m 0 #[.val (.int p1), .val (.int p2), .val (.int p3), .unset, .unset, .unset, .unset, .unset, .unset, .unset, .unset] []))
  refine Go.step (fun t k => XS.iconst X0.here hx rfl (hb hby at_0)  k) ?_
  show Go p e below _ (s₁.setTop (mkF m 1 #[.val (.int p1), .val (.int p2), .val (.int p3), .unset, .unset, .unset, .unset, .unset, .unset, .unset, .unset] [(.int (1 : Int32))]))
  refine Go.step (fun t k => XS.iloadN X0.here hx rfl (hb hby at_1) rfl k) ?_
  show Go p e below _ (s₁.setTop (mkF m 2 #[.val (.int p1), .val (.int p2), .val (.int p3), .unset, .unset, .unset, .unset, .unset, .unset, .unset, .unset] [(.int p3), (.int (1 : Int32))]))
  refine Go.step (X0.ldcInt hx hown (mvT hZ (hw _ (List.mem_of_getElem? (i := 0) rfl))) (g := (mkF m 2 #[.val (.int p1), .val (.int p2), .val (.int p3), .unset, .unset, .unset, .unset, .unset, .unset, .unset, .unset] [(.int p3), (.int (1 : Int32))])) rfl (hb hby at_2)) ?_
  show Go p e below _ (s₁.setTop (mkF m 4 #[.val (.int p1), .val (.int p2), .val (.int p3), .unset, .unset, .unset, .unset, .unset, .unset, .unset, .unset] [(.int (2147483647 : Int32)), (.int p3), (.int (1 : Int32))]))
  refine Go.step (fun t k => XS.iand X0.here hx rfl (hb hby at_4) rfl k) ?_
  show Go p e below _ (s₁.setTop (mkF m 5 #[.val (.int p1), .val (.int p2), .val (.int p3), .unset, .unset, .unset, .unset, .unset, .unset, .unset, .unset] [(.int (p3 &&& (2147483647 : Int32))), (.int (1 : Int32))]))
  obtain ⟨_, _, ⟨T4, L4, k4, n4⟩, -, X4, ⟨Lc4, hQ4, l4, y4, z4⟩, st4⟩ := Jvm.LawKit.callS X0 hx (y := (⟨"java/lang/Math", "max", "(II)I"⟩ : MethodName)) hown (mvT hZ (hw _ (List.mem_of_getElem? (i := 1) rfl))) (mvT hZ (hw _ (List.mem_of_getElem? (i := 2) rfl))) (mvT hZ (hw _ (List.mem_of_getElem? (i := 3) rfl))) (mvT hZ (hw _ (List.mem_of_getElem? (i := 4) rfl))) (by decide) (backOf (W := 0) (rm1 l Z a0 hw [] (1 : Int32) (p3 &&& (2147483647 : Int32)) h0 n0 Z0) hZ (hw _ (List.mem_of_getElem? (i := 4) rfl)) (hw _ (List.mem_of_getElem? (i := 3) rfl)) (by decide) (by decide)) (g := (mkF m 5 #[.val (.int p1), .val (.int p2), .val (.int p3), .unset, .unset, .unset, .unset, .unset, .unset, .unset, .unset] [(.int (p3 &&& (2147483647 : Int32))), (.int (1 : Int32))])) rfl (by rw [hml]; rfl) (argsL := [(.int (1 : Int32)), (.int (p3 &&& (2147483647 : Int32)))]) (rest := []) (lenOf pd_0 rfl) rfl (by show 2 * 0 + _ ≤ _; exact Nat.le_of_eq rfl) (hb hby at_5) (fun _ _ => ⟨rfl, e0, (by decide : 0 + 0 ≤ _), (by decide : 0 + 0 ≤ _)⟩)
  dsimp only [Pt.U, Pt.locs, Pt.cells, Pt.slots] at X4 l4 y4 z4 st4 hQ4
  subst l4 y4 z4
  obtain ⟨rfl, N4q, e4⟩ := hQ4
  have N4 := Fr.app N0 N4q
  refine Go.step st4 ?_
  show Go p e below _ (T4.setTop (mkF m 8 #[.val (.int p1), .val (.int p2), .val (.int p3), .unset, .unset, .unset, .unset, .unset, .unset, .unset, .unset] [(.int (f1 (1 : Int32) (p3 &&& (2147483647 : Int32))))]))
  obtain ⟨v5, hv5⟩ : ∃ z : Int32, z = (f1 (1 : Int32) (p3 &&& (2147483647 : Int32))) := ⟨_, rfl⟩
  rw [← hv5]
  show Go p e below _ (T4.setTop (mkF m 8 #[.val (.int p1), .val (.int p2), .val (.int p3), .unset, .unset, .unset, .unset, .unset, .unset, .unset, .unset] [(.int v5)]))
  refine Go.step (fun t k => XS.istoreN X4.here hx rfl (hb hby at_8) rfl (l' := #[.val (.int p1), .val (.int p2), .val (.int p3), .val (.int v5), .unset, .unset, .unset, .unset, .unset, .unset, .unset]) rfl k) ?_
  show Go p e below _ (T4.setTop (mkF m 9 #[.val (.int p1), .val (.int p2), .val (.int p3), .val (.int v5), .unset, .unset, .unset, .unset, .unset, .unset, .unset] []))
  refine Go.step (fun t k => XS.iloadN X4.here hx rfl (hb hby at_9) rfl k) ?_
  show Go p e below _ (T4.setTop (mkF m 10 #[.val (.int p1), .val (.int p2), .val (.int p3), .val (.int v5), .unset, .unset, .unset, .unset, .unset, .unset, .unset] [(.int p2)]))
  refine Go.step (X4.ldcInt hx hown (mvT hZ (hw _ (List.mem_of_getElem? (i := 0) rfl))) (g := (mkF m 10 #[.val (.int p1), .val (.int p2), .val (.int p3), .val (.int v5), .unset, .unset, .unset, .unset, .unset, .unset, .unset] [(.int p2)])) rfl (hb hby at_10)) ?_
  show Go p e below _ (T4.setTop (mkF m 12 #[.val (.int p1), .val (.int p2), .val (.int p3), .val (.int v5), .unset, .unset, .unset, .unset, .unset, .unset, .unset] [(.int (2147483647 : Int32)), (.int p2)]))
  refine Go.step (fun t k => XS.iand X4.here hx rfl (hb hby at_12) rfl k) ?_
  show Go p e below _ (T4.setTop (mkF m 13 #[.val (.int p1), .val (.int p2), .val (.int p3), .val (.int v5), .unset, .unset, .unset, .unset, .unset, .unset, .unset] [(.int (p2 &&& (2147483647 : Int32)))]))
  refine Go.step (fun t k => XS.iloadN X4.here hx rfl (hb hby at_13) rfl k) ?_
  show Go p e below _ (T4.setTop (mkF m 14 #[.val (.int p1), .val (.int p2), .val (.int p3), .val (.int v5), .unset, .unset, .unset, .unset, .unset, .unset, .unset] [(.int v5), (.int (p2 &&& (2147483647 : Int32)))]))
  refine Go.step (fun t (k : Steps p.tables e below (T4.setTop (mkF m 15 #[.val (.int p1), .val (.int p2), .val (.int p3), .val (.int v5), .unset, .unset, .unset, .unset, .unset, .unset, .unset] [(.int ((p2 &&& (2147483647 : Int32)) % v5))])) t) => XS.irem X4.here hx rfl (hb hby at_14) rfl (by simpa only [hv5] using hnz14 : ¬ (v5 = (0 : Int32))) (by rw [remI]; exact k)) ?_
  show Go p e below _ (T4.setTop (mkF m 15 #[.val (.int p1), .val (.int p2), .val (.int p3), .val (.int v5), .unset, .unset, .unset, .unset, .unset, .unset, .unset] [(.int ((p2 &&& (2147483647 : Int32)) % v5))]))
  obtain ⟨v6, hv6⟩ : ∃ z : Int32, z = ((p2 &&& (2147483647 : Int32)) % v5) := ⟨_, rfl⟩
  rw [← hv6]
  show Go p e below _ (T4.setTop (mkF m 15 #[.val (.int p1), .val (.int p2), .val (.int p3), .val (.int v5), .unset, .unset, .unset, .unset, .unset, .unset, .unset] [(.int v6)]))
  refine Go.step (fun t k => XS.istore X4.here hx rfl (hb hby at_15) rfl (l' := #[.val (.int p1), .val (.int p2), .val (.int p3), .val (.int v5), .val (.int v6), .unset, .unset, .unset, .unset, .unset, .unset]) rfl k) ?_
  show Go p e below _ (T4.setTop (mkF m 17 #[.val (.int p1), .val (.int p2), .val (.int p3), .val (.int v5), .val (.int v6), .unset, .unset, .unset, .unset, .unset, .unset] []))
  refine Go.step (fun t k => XS.iload X4.here hx rfl (hb hby at_17) rfl k) ?_
  show Go p e below _ (T4.setTop (mkF m 19 #[.val (.int p1), .val (.int p2), .val (.int p3), .val (.int v5), .val (.int v6), .unset, .unset, .unset, .unset, .unset, .unset] [(.int v6)]))
  refine Go.step (fun t k => XS.i2l X4.here hx rfl (hb hby at_19) rfl k) ?_
  show Go p e below _ (T4.setTop (mkF m 20 #[.val (.int p1), .val (.int p2), .val (.int p3), .val (.int v5), .val (.int v6), .unset, .unset, .unset, .unset, .unset, .unset] [(.long (v6.toInt64))]))
  refine Go.step (fun t k => XS.bipush X4.here hx rfl (hb hby at_20)  k) ?_
  show Go p e below _ (T4.setTop (mkF m 22 #[.val (.int p1), .val (.int p2), .val (.int p3), .val (.int v5), .val (.int v6), .unset, .unset, .unset, .unset, .unset, .unset] [(.int (32 : Int32)), (.long (v6.toInt64))]))
  refine Go.step (fun t k => XS.lshl X4.here hx rfl (hb hby at_22) rfl k) ?_
  show Go p e below _ (T4.setTop (mkF m 23 #[.val (.int p1), .val (.int p2), .val (.int p3), .val (.int v5), .val (.int v6), .unset, .unset, .unset, .unset, .unset, .unset] [(.long ((v6.toInt64) <<< ((32 : Int32) &&& 0x3f).toInt64))]))
  refine Go.step (fun t k => XS.iloadN X4.here hx rfl (hb hby at_23) rfl k) ?_
  show Go p e below _ (T4.setTop (mkF m 24 #[.val (.int p1), .val (.int p2), .val (.int p3), .val (.int v5), .val (.int v6), .unset, .unset, .unset, .unset, .unset, .unset] [(.int v5), (.long ((v6.toInt64) <<< ((32 : Int32) &&& 0x3f).toInt64))]))
  refine Go.step (fun t k => XS.i2l X4.here hx rfl (hb hby at_24) rfl k) ?_
  show Go p e below _ (T4.setTop (mkF m 25 #[.val (.int p1), .val (.int p2), .val (.int p3), .val (.int v5), .val (.int v6), .unset, .unset, .unset, .unset, .unset, .unset] [(.long (v5.toInt64)), (.long ((v6.toInt64) <<< ((32 : Int32) &&& 0x3f).toInt64))]))
  refine Go.step (fun t k => XS.ldiv X4.here hx rfl (hb hby at_25) rfl (by simpa only [hv5, hv6] using hnz25 : ¬ ((v5.toInt64) = (0 : Int64))) k) ?_
  show Go p e below _ (T4.setTop (mkF m 26 #[.val (.int p1), .val (.int p2), .val (.int p3), .val (.int v5), .val (.int v6), .unset, .unset, .unset, .unset, .unset, .unset] [(.long (((v6.toInt64) <<< ((32 : Int32) &&& 0x3f).toInt64) / (v5.toInt64)))]))
  refine Go.step (fun t k => XS.l2i X4.here hx rfl (hb hby at_26) rfl k) ?_
  show Go p e below _ (T4.setTop (mkF m 27 #[.val (.int p1), .val (.int p2), .val (.int p3), .val (.int v5), .val (.int v6), .unset, .unset, .unset, .unset, .unset, .unset] [(.int ((((v6.toInt64) <<< ((32 : Int32) &&& 0x3f).toInt64) / (v5.toInt64)).toInt32))]))
  obtain ⟨v7, hv7⟩ : ∃ z : Int32, z = ((((v6.toInt64) <<< ((32 : Int32) &&& 0x3f).toInt64) / (v5.toInt64)).toInt32) := ⟨_, rfl⟩
  rw [← hv7]
  show Go p e below _ (T4.setTop (mkF m 27 #[.val (.int p1), .val (.int p2), .val (.int p3), .val (.int v5), .val (.int v6), .unset, .unset, .unset, .unset, .unset, .unset] [(.int v7)]))
  refine Go.step (fun t k => XS.istore X4.here hx rfl (hb hby at_27) rfl (l' := #[.val (.int p1), .val (.int p2), .val (.int p3), .val (.int v5), .val (.int v6), .val (.int v7), .unset, .unset, .unset, .unset, .unset]) rfl k) ?_
  show Go p e below _ (T4.setTop (mkF m 29 #[.val (.int p1), .val (.int p2), .val (.int p3), .val (.int v5), .val (.int v6), .val (.int v7), .unset, .unset, .unset, .unset, .unset] []))
  refine Go.step (fun t k => XS.iloadN X4.here hx rfl (hb hby at_29) rfl k) ?_
  show Go p e below _ (T4.setTop (mkF m 30 #[.val (.int p1), .val (.int p2), .val (.int p3), .val (.int v5), .val (.int v6), .val (.int v7), .unset, .unset, .unset, .unset, .unset] [(.int p1)]))
  refine Go.step (fun t k => XS.iload X4.here hx rfl (hb hby at_30) rfl k) ?_
  show Go p e below _ (T4.setTop (mkF m 32 #[.val (.int p1), .val (.int p2), .val (.int p3), .val (.int v5), .val (.int v6), .val (.int v7), .unset, .unset, .unset, .unset, .unset] [(.int v6), (.int p1)]))
  refine Go.step (fun t k => XS.iload X4.here hx rfl (hb hby at_32) rfl k) ?_
  show Go p e below _ (T4.setTop (mkF m 34 #[.val (.int p1), .val (.int p2), .val (.int p3), .val (.int v5), .val (.int v6), .val (.int v7), .unset, .unset, .unset, .unset, .unset] [(.int v7), (.int v6), (.int p1)]))
  refine Go.step (fun t k => XS.iloadN X4.here hx rfl (hb hby at_34) rfl k) ?_
  show Go p e below _ (T4.setTop (mkF m 35 #[.val (.int p1), .val (.int p2), .val (.int p3), .val (.int v5), .val (.int v6), .val (.int v7), .unset, .unset, .unset, .unset, .unset] [(.int v5), (.int v7), (.int v6), (.int p1)]))
  obtain ⟨_, _, ⟨T8, L8, k8, n8⟩, -, X8, ⟨Lc8, hQ8, l8, y8, z8⟩, st8⟩ := Jvm.LawKit.callS X4 hx (y := (⟨"com/example/tinwire/tinwire/json/Transform", "multiply", "(IIII)I"⟩ : MethodName)) hown (mvT hZ (hw _ (List.mem_of_getElem? (i := 5) rfl))) (mvT hZ (hw _ (List.mem_of_getElem? (i := 6) rfl))) (mvT hZ (hw _ (List.mem_of_getElem? (i := 7) rfl))) (mvT hZ (hw _ (List.mem_of_getElem? (i := 8) rfl))) (by decide) (backOf (W := 0) (rm2 l Z a0 hw [] p1 v6 v7 v5 h0 n0 Z0) hZ (hw _ (List.mem_of_getElem? (i := 8) rfl)) (hw _ (List.mem_of_getElem? (i := 7) rfl)) (by decide) (by decide)) (g := (mkF m 35 #[.val (.int p1), .val (.int p2), .val (.int p3), .val (.int v5), .val (.int v6), .val (.int v7), .unset, .unset, .unset, .unset, .unset] [(.int v5), (.int v7), (.int v6), (.int p1)])) rfl (by rw [hml]; rfl) (argsL := [(.int p1), (.int v6), (.int v7), (.int v5)]) (rest := []) (lenOf pd_1 rfl) rfl (by show 2 * 0 + _ ≤ _; exact Nat.le_of_eq rfl) (hb hby at_35) (fun _ _ => ⟨rfl, e4, (by decide : 0 + 0 ≤ _), (by decide : 0 + 0 ≤ _)⟩)
  dsimp only [Pt.U, Pt.locs, Pt.cells, Pt.slots] at X8 l8 y8 z8 st8 hQ8
  subst l8 y8 z8
  obtain ⟨rfl, N8q, e8⟩ := hQ8
  have N8 := Fr.app N4 N8q
  refine Go.step st8 ?_
  show Go p e below _ (T8.setTop (mkF m 38 #[.val (.int p1), .val (.int p2), .val (.int p3), .val (.int v5), .val (.int v6), .val (.int v7), .unset, .unset, .unset, .unset, .unset] [(.int (f2 p1 v6 v7 v5))]))
  obtain ⟨v9, hv9⟩ : ∃ z : Int32, z = (f2 p1 v6 v7 v5) := ⟨_, rfl⟩
  rw [← hv9]
  show Go p e below _ (T8.setTop (mkF m 38 #[.val (.int p1), .val (.int p2), .val (.int p3), .val (.int v5), .val (.int v6), .val (.int v7), .unset, .unset, .unset, .unset, .unset] [(.int v9)]))
  refine Go.step (fun t k => XS.istore X8.here hx rfl (hb hby at_38) rfl (l' := #[.val (.int p1), .val (.int p2), .val (.int p3), .val (.int v5), .val (.int v6), .val (.int v7), .val (.int v9), .unset, .unset, .unset, .unset]) rfl k) ?_
  show Go p e below _ (T8.setTop (mkF m 40 #[.val (.int p1), .val (.int p2), .val (.int p3), .val (.int v5), .val (.int v6), .val (.int v7), .val (.int v9), .unset, .unset, .unset, .unset] []))
  refine Go.step (fun t k => XS.iloadN X8.here hx rfl (hb hby at_40) rfl k) ?_
  show Go p e below _ (T8.setTop (mkF m 41 #[.val (.int p1), .val (.int p2), .val (.int p3), .val (.int v5), .val (.int v6), .val (.int v7), .val (.int v9), .unset, .unset, .unset, .unset] [(.int p1)]))
  refine Go.step (fun t k => XS.i2l X8.here hx rfl (hb hby at_41) rfl k) ?_
  show Go p e below _ (T8.setTop (mkF m 42 #[.val (.int p1), .val (.int p2), .val (.int p3), .val (.int v5), .val (.int v6), .val (.int v7), .val (.int v9), .unset, .unset, .unset, .unset] [(.long (p1.toInt64))]))
  refine Go.step (X8.ldc2Long hx hown (mvT hZ (hw _ (List.mem_of_getElem? (i := 10) rfl))) (g := (mkF m 42 #[.val (.int p1), .val (.int p2), .val (.int p3), .val (.int v5), .val (.int v6), .val (.int v7), .val (.int v9), .unset, .unset, .unset, .unset] [(.long (p1.toInt64))])) rfl (hb hby at_42)) ?_
  show Go p e below _ (T8.setTop (mkF m 45 #[.val (.int p1), .val (.int p2), .val (.int p3), .val (.int v5), .val (.int v6), .val (.int v7), .val (.int v9), .unset, .unset, .unset, .unset] [(.long (4294967295 : Int64)), (.long (p1.toInt64))]))
  refine Go.step (fun t k => XS.land X8.here hx rfl (hb hby at_45) rfl k) ?_
  show Go p e below _ (T8.setTop (mkF m 46 #[.val (.int p1), .val (.int p2), .val (.int p3), .val (.int v5), .val (.int v6), .val (.int v7), .val (.int v9), .unset, .unset, .unset, .unset] [(.long ((p1.toInt64) &&& (4294967295 : Int64)))]))
  obtain ⟨v10, hv10⟩ : ∃ z : Int64, z = ((p1.toInt64) &&& (4294967295 : Int64)) := ⟨_, rfl⟩
  rw [← hv10]
  show Go p e below _ (T8.setTop (mkF m 46 #[.val (.int p1), .val (.int p2), .val (.int p3), .val (.int v5), .val (.int v6), .val (.int v7), .val (.int v9), .unset, .unset, .unset, .unset] [(.long v10)]))
  refine Go.step (fun t k => XS.lstore X8.here hx rfl (hb hby at_46) rfl (l' := #[.val (.int p1), .val (.int p2), .val (.int p3), .val (.int v5), .val (.int v6), .val (.int v7), .val (.int v9), .val (.long v10), .second, .unset, .unset]) rfl k) ?_
  show Go p e below _ (T8.setTop (mkF m 48 #[.val (.int p1), .val (.int p2), .val (.int p3), .val (.int v5), .val (.int v6), .val (.int v7), .val (.int v9), .val (.long v10), .second, .unset, .unset] []))
  refine Go.step (fun t k => XS.lload X8.here hx rfl (hb hby at_48) rfl k) ?_
  show Go p e below _ (T8.setTop (mkF m 50 #[.val (.int p1), .val (.int p2), .val (.int p3), .val (.int v5), .val (.int v6), .val (.int v7), .val (.int v9), .val (.long v10), .second, .unset, .unset] [(.long v10)]))
  refine Go.step (fun t k => XS.iloadN X8.here hx rfl (hb hby at_50) rfl k) ?_
  show Go p e below _ (T8.setTop (mkF m 51 #[.val (.int p1), .val (.int p2), .val (.int p3), .val (.int v5), .val (.int v6), .val (.int v7), .val (.int v9), .val (.long v10), .second, .unset, .unset] [(.int v5), (.long v10)]))
  refine Go.step (fun t k => XS.i2l X8.here hx rfl (hb hby at_51) rfl k) ?_
  show Go p e below _ (T8.setTop (mkF m 52 #[.val (.int p1), .val (.int p2), .val (.int p3), .val (.int v5), .val (.int v6), .val (.int v7), .val (.int v9), .val (.long v10), .second, .unset, .unset] [(.long (v5.toInt64)), (.long v10)]))
  refine Go.step (fun t (k : Steps p.tables e below (T8.setTop (mkF m 53 #[.val (.int p1), .val (.int p2), .val (.int p3), .val (.int v5), .val (.int v6), .val (.int v7), .val (.int v9), .val (.long v10), .second, .unset, .unset] [(.long (v10 % (v5.toInt64)))])) t) => XS.lrem X8.here hx rfl (hb hby at_52) rfl (by simpa only [hv5, hv6, hv7, hv9, hv10] using hnz52 : ¬ ((v5.toInt64) = (0 : Int64))) (by rw [lrem_mod]; exact k)) ?_
  show Go p e below _ (T8.setTop (mkF m 53 #[.val (.int p1), .val (.int p2), .val (.int p3), .val (.int v5), .val (.int v6), .val (.int v7), .val (.int v9), .val (.long v10), .second, .unset, .unset] [(.long (v10 % (v5.toInt64)))]))
  refine Go.step (fun t k => XS.iload X8.here hx rfl (hb hby at_53) rfl k) ?_
  show Go p e below _ (T8.setTop (mkF m 55 #[.val (.int p1), .val (.int p2), .val (.int p3), .val (.int v5), .val (.int v6), .val (.int v7), .val (.int v9), .val (.long v10), .second, .unset, .unset] [(.int v6), (.long (v10 % (v5.toInt64)))]))
  refine Go.step (fun t k => XS.i2l X8.here hx rfl (hb hby at_55) rfl k) ?_
  show Go p e below _ (T8.setTop (mkF m 56 #[.val (.int p1), .val (.int p2), .val (.int p3), .val (.int v5), .val (.int v6), .val (.int v7), .val (.int v9), .val (.long v10), .second, .unset, .unset] [(.long (v6.toInt64)), (.long (v10 % (v5.toInt64)))]))
  refine Go.step (fun t k => XS.lmul X8.here hx rfl (hb hby at_56) rfl k) ?_
  show Go p e below _ (T8.setTop (mkF m 57 #[.val (.int p1), .val (.int p2), .val (.int p3), .val (.int v5), .val (.int v6), .val (.int v7), .val (.int v9), .val (.long v10), .second, .unset, .unset] [(.long ((v10 % (v5.toInt64)) * (v6.toInt64)))]))
  refine Go.step (fun t k => XS.iloadN X8.here hx rfl (hb hby at_57) rfl k) ?_
  show Go p e below _ (T8.setTop (mkF m 58 #[.val (.int p1), .val (.int p2), .val (.int p3), .val (.int v5), .val (.int v6), .val (.int v7), .val (.int v9), .val (.long v10), .second, .unset, .unset] [(.int v5), (.long ((v10 % (v5.toInt64)) * (v6.toInt64)))]))
  refine Go.step (fun t k => XS.i2l X8.here hx rfl (hb hby at_58) rfl k) ?_
  show Go p e below _ (T8.setTop (mkF m 59 #[.val (.int p1), .val (.int p2), .val (.int p3), .val (.int v5), .val (.int v6), .val (.int v7), .val (.int v9), .val (.long v10), .second, .unset, .unset] [(.long (v5.toInt64)), (.long ((v10 % (v5.toInt64)) * (v6.toInt64)))]))
  refine Go.step (fun t (k : Steps p.tables e below (T8.setTop (mkF m 60 #[.val (.int p1), .val (.int p2), .val (.int p3), .val (.int v5), .val (.int v6), .val (.int v7), .val (.int v9), .val (.long v10), .second, .unset, .unset] [(.long (((v10 % (v5.toInt64)) * (v6.toInt64)) % (v5.toInt64)))])) t) => XS.lrem X8.here hx rfl (hb hby at_59) rfl (by simpa only [hv5, hv6, hv7, hv9, hv10] using hnz59 : ¬ ((v5.toInt64) = (0 : Int64))) (by rw [lrem_mod]; exact k)) ?_
  show Go p e below _ (T8.setTop (mkF m 60 #[.val (.int p1), .val (.int p2), .val (.int p3), .val (.int v5), .val (.int v6), .val (.int v7), .val (.int v9), .val (.long v10), .second, .unset, .unset] [(.long (((v10 % (v5.toInt64)) * (v6.toInt64)) % (v5.toInt64)))]))
  obtain ⟨v11, hv11⟩ : ∃ z : Int64, z = (((v10 % (v5.toInt64)) * (v6.toInt64)) % (v5.toInt64)) := ⟨_, rfl⟩
  rw [← hv11]
  show Go p e below _ (T8.setTop (mkF m 60 #[.val (.int p1), .val (.int p2), .val (.int p3), .val (.int v5), .val (.int v6), .val (.int v7), .val (.int v9), .val (.long v10), .second, .unset, .unset] [(.long v11)]))
  refine Go.step (fun t k => XS.lstore X8.here hx rfl (hb hby at_60) rfl (l' := #[.val (.int p1), .val (.int p2), .val (.int p3), .val (.int v5), .val (.int v6), .val (.int v7), .val (.int v9), .val (.long v10), .second, .val (.long v11), .second]) rfl k) ?_
  show Go p e below _ (T8.setTop (mkF m 62 #[.val (.int p1), .val (.int p2), .val (.int p3), .val (.int v5), .val (.int v6), .val (.int v7), .val (.int v9), .val (.long v10), .second, .val (.long v11), .second] []))
  refine Go.step (fun t k => XS.iload X8.here hx rfl (hb hby at_62) rfl k) ?_
  show Go p e below _ (T8.setTop (mkF m 64 #[.val (.int p1), .val (.int p2), .val (.int p3), .val (.int v5), .val (.int v6), .val (.int v7), .val (.int v9), .val (.long v10), .second, .val (.long v11), .second] [(.int v9)]))
  refine Go.step (fun t k => XS.i2l X8.here hx rfl (hb hby at_64) rfl k) ?_
  show Go p e below _ (T8.setTop (mkF m 65 #[.val (.int p1), .val (.int p2), .val (.int p3), .val (.int v5), .val (.int v6), .val (.int v7), .val (.int v9), .val (.long v10), .second, .val (.long v11), .second] [(.long (v9.toInt64))]))
  refine Go.step (fun t k => XS.lload X8.here hx rfl (hb hby at_65) rfl k) ?_
  show Go p e below _ (T8.setTop (mkF m 67 #[.val (.int p1), .val (.int p2), .val (.int p3), .val (.int v5), .val (.int v6), .val (.int v7), .val (.int v9), .val (.long v10), .second, .val (.long v11), .second] [(.long v11), (.long (v9.toInt64))]))
  refine Go.step (fun t k => XS.lcmp X8.here hx rfl (hb hby at_67) rfl k) ?_
  show Go p e below _ (T8.setTop (mkF m 68 #[.val (.int p1), .val (.int p2), .val (.int p3), .val (.int v5), .val (.int v6), .val (.int v7), .val (.int v9), .val (.long v10), .second, .val (.long v11), .second] [(.int (lcmpW (v9.toInt64) v11))]))
  by_cases hc12 : (v9.toInt64) = v11
  · refine Go.step (fun t k => XS.ifNo X8.here hx rfl (hb hby at_68) rfl ((if0 _ _).trans (teq ((lw_eq _ _).mpr hc12)).2) k) ?_
    show Go p e below _ (T8.setTop (mkF m 71 #[.val (.int p1), .val (.int p2), .val (.int p3), .val (.int v5), .val (.int v6), .val (.int v7), .val (.int v9), .val (.long v10), .second, .val (.long v11), .second] []))
    refine Go.step (fun t k => XS.iconst X8.here hx rfl (hb hby at_71)  k) ?_
    show Go p e below _ (T8.setTop (mkF m 72 #[.val (.int p1), .val (.int p2), .val (.int p3), .val (.int v5), .val (.int v6), .val (.int v7), .val (.int v9), .val (.long v10), .second, .val (.long v11), .second] [(.int (1 : Int32))]))
    refine Go.step (fun t k => XS.goto X8.here hx rfl (pc0 := 72) (pc' := 76) rfl (hb hby at_72) (by decide) (by decide) k) ?_
    show Go p e below _ (T8.setTop (mkF m 76 #[.val (.int p1), .val (.int p2), .val (.int p3), .val (.int v5), .val (.int v6), .val (.int v7), .val (.int v9), .val (.long v10), .second, .val (.long v11), .second] [(.int (1 : Int32))]))
    subst hv11
    subst hv10
    subst hv9
    subst hv7
    subst hv6
    subst hv5
    exact retGN X8 hx Bd.notSynchronized Bd.returns (t := .boolean) (by simp) (z' := (1 : Int32)) rfl (hb hby at_76) ⟨by first | (simp only [f0, if_pos hc12]; done) | rfl | (simp [f0, if_pos hc12]; done), N8, e8⟩ (by decide) (by decide)
  · refine Go.step (fun t k => XS.ifYes X8.here hx rfl (pc0 := 68) (pc' := 75) rfl (hb hby at_68) rfl ((if0 _ _).trans (feq (fun q => hc12 ((lw_eq _ _).mp q))).2) (by decide) (by decide) k) ?_
    show Go p e below _ (T8.setTop (mkF m 75 #[.val (.int p1), .val (.int p2), .val (.int p3), .val (.int v5), .val (.int v6), .val (.int v7), .val (.int v9), .val (.long v10), .second, .val (.long v11), .second] []))
    refine Go.step (fun t k => XS.iconst X8.here hx rfl (hb hby at_75)  k) ?_
    show Go p e below _ (T8.setTop (mkF m 76 #[.val (.int p1), .val (.int p2), .val (.int p3), .val (.int v5), .val (.int v6), .val (.int v7), .val (.int v9), .val (.long v10), .second, .val (.long v11), .second] [(.int (0 : Int32))]))
    subst hv11
    subst hv10
    subst hv9
    subst hv7
    subst hv6
    subst hv5
    exact retGN X8 hx Bd.notSynchronized Bd.returns (t := .boolean) (by simp) (z' := (0 : Int32)) rfl (hb hby at_76) ⟨by first | (simp only [f0, if_neg hc12]; done) | rfl | (simp [f0, if_neg hc12]; done), N8, e8⟩ (by decide) (by decide)
theorem shoup (u F P fq q : Int) (hu0 : 0 ≤ u) (hu : u < 4294967296) (hP : 0 < P) (hfq : fq = F * 4294967296 / P) (hq : q = u * fq / 4294967296) : 0 ≤ u * F - q * P ∧ u * F - q * P < 2 * P := by
  have a1 : fq * P ≤ F * 4294967296 := by rw [hfq]; exact Int.ediv_mul_le _ (by omega)
  have a2 : F * 4294967296 < (fq + 1) * P := by rw [hfq]; exact Int.lt_ediv_add_one_mul_self _ hP
  have b1 : q * 4294967296 ≤ u * fq := by omega
  have b2 : u * fq + 1 ≤ (q + 1) * 4294967296 := by omega
  have c1 : u * (fq * P) ≤ u * (F * 4294967296) := Int.mul_le_mul_of_nonneg_left a1 hu0
  have c2 : (q * 4294967296) * P ≤ (u * fq) * P := Int.mul_le_mul_of_nonneg_right b1 (by omega)
  have c3 : u * (F * 4294967296) ≤ u * ((fq + 1) * P) := Int.mul_le_mul_of_nonneg_left (by omega) hu0
  have c4 : (u * fq + 1) * P ≤ ((q + 1) * 4294967296) * P := Int.mul_le_mul_of_nonneg_right b2 (by omega)
  have c5 : u * P ≤ 4294967296 * P := Int.mul_le_mul_of_nonneg_right (by omega) (by omega)
  have e1 : u * (fq * P) = u * fq * P := by rw [Int.mul_assoc]
  have e2 : u * (F * 4294967296) = u * F * 4294967296 := by rw [Int.mul_assoc]
  have e3 : q * 4294967296 * P = q * P * 4294967296 := by rw [Int.mul_right_comm]
  have e4 : u * ((fq + 1) * P) = u * fq * P + u * P := by rw [Int.add_mul, Int.mul_add, Int.one_mul, Int.mul_assoc]
  have e5 : (u * fq + 1) * P = u * fq * P + P := by rw [Int.add_mul, Int.one_mul]
  have e6 : (q + 1) * 4294967296 * P = q * P * 4294967296 + 4294967296 * P := by rw [Int.add_mul, Int.add_mul, Int.one_mul, e3]
  generalize u * fq * P = x1 at *
  generalize u * F = x2 at *
  generalize q * P = x3 at *
  generalize u * P = x4 at *
  omega

theorem own_p (z : Int32) : 1 ≤ (f1 1 (z &&& 2147483647)).toInt := by
  unfold f1
  have e : (1 : Int32).toInt = 1 := by decide
  split
  · rename_i h; rw [Int32.lt_iff_toInt_lt, e] at h; omega
  · rw [e]; omega
theorem pre1 (z : Int32) : ¬ (f1 1 (z &&& 2147483647) = 0) := fun h => by
  have := own_p z
  rw [h] at this
  exact absurd this (by decide)
theorem pre2 (z : Int32) : ¬ ((f1 1 (z &&& 2147483647)).toInt64 = 0) := fun h => by
  have := own_p z
  have e := c_i2l (f1 1 (z &&& 2147483647))
  rw [h] at e
  have e0 : (0 : Int64).toInt = 0 := by decide
  omega
/-- the method's own work: x times F modulo P, with the quotient of F -/
theorem own_mul (x F Q P : Int32) (hP : 1 ≤ P.toInt) (hF0 : 0 ≤ F.toInt) (hF : F.toInt < P.toInt) (hQ : Q.toInt % 4294967296 = F.toInt * 4294967296 / P.toInt) :
    (f2 x F Q P).toInt = (x.toInt % 4294967296 * F.toInt) % P.toInt := by
  have rP := rng32 P
  have m1 : (x.toInt64 &&& (4294967295 : Int64)).toInt = x.toInt % 4294967296 := by
    have := c_maskL x.toInt64 4294967295 32 (by decide) (by decide)
    rw [c_i2l] at this; exact this
  have m2 : (Q.toInt64 &&& (4294967295 : Int64)).toInt = Q.toInt % 4294967296 := by
    have := c_maskL Q.toInt64 4294967295 32 (by decide) (by decide)
    rw [c_i2l] at this; exact this
  have m3 := c_lmul (x.toInt64 &&& (4294967295 : Int64)) (Q.toInt64 &&& (4294967295 : Int64))
  have m4 := c_lushr ((x.toInt64 &&& (4294967295 : Int64)) * (Q.toInt64 &&& (4294967295 : Int64))) 32 32 (by decide) (by decide)
  rw [m1, m2] at m3
  have u0 : 0 ≤ x.toInt % 4294967296 ∧ x.toInt % 4294967296 < 4294967296 := by omega
  have q0 : 0 ≤ Q.toInt % 4294967296 ∧ Q.toInt % 4294967296 < 4294967296 := by omega
  have pb : 0 ≤ x.toInt % 4294967296 * (Q.toInt % 4294967296) := Int.mul_nonneg u0.1 q0.1
  have pc : x.toInt % 4294967296 * (Q.toInt % 4294967296) ≤ 4294967295 * 4294967295 := Int.mul_le_mul (by omega) (by omega) q0.1 (by decide)
  have hq : (((((x.toInt64) &&& (4294967295 : Int64)) * ((Q.toInt64) &&& (4294967295 : Int64))).toUInt64 >>> ((32 : Int32) &&& 0x3f).toInt64.toUInt64).toInt64).toInt = x.toInt % 4294967296 * (Q.toInt % 4294967296) / 4294967296 := by
    rw [m4]
    generalize x.toInt % 4294967296 * (Q.toInt % 4294967296) = w at *
    omega
  have sh := shoup (x.toInt % 4294967296) F.toInt P.toInt (Q.toInt % 4294967296) _ u0.1 u0.2 (by omega) hQ rfl
  have k1 := c_l2i ((((((x.toInt64) &&& (4294967295 : Int64)) * ((Q.toInt64) &&& (4294967295 : Int64))).toUInt64 >>> ((32 : Int32) &&& 0x3f).toInt64.toUInt64).toInt64))
  rw [hq] at k1
  unfold f2
  generalize ((((((x.toInt64) &&& (4294967295 : Int64)) * ((Q.toInt64) &&& (4294967295 : Int64))).toUInt64 >>> ((32 : Int32) &&& 0x3f).toInt64.toUInt64).toInt64).toInt32) = qi at *
  generalize x.toInt % 4294967296 * (Q.toInt % 4294967296) / 4294967296 = q at *
  have k2 := c_imul x F
  have k3 := c_imul qi P
  have j1 : (x.toInt * F.toInt - x.toInt % 4294967296 * F.toInt) % 4294967296 = 0 := by
    rw [← Int.sub_mul]
    have : x.toInt - x.toInt % 4294967296 = 4294967296 * (x.toInt / 4294967296) := by omega
    rw [this, Int.mul_assoc]; omega
  have j2 : (qi.toInt * P.toInt - q * P.toInt) % 4294967296 = 0 := by
    rw [← Int.sub_mul]
    have : qi.toInt - q = 4294967296 * ((qi.toInt - q) / 4294967296) := by omega
    rw [this, Int.mul_assoc]; omega
  have k4 := c_isub (x * F) (qi * P)
  have k5 := c_isub (x * F - qi * P) P
  have r5 := rng32 (x * F - qi * P - P)
  have ht : (x * F - qi * P - P).toInt = x.toInt % 4294967296 * F.toInt - q * P.toInt - P.toInt := by
    generalize x.toInt % 4294967296 * F.toInt = a1 at *
    generalize x.toInt * F.toInt = a2 at *
    generalize qi.toInt * P.toInt = a3 at *
    generalize q * P.toInt = a4 at *
    omega
  have he : (x.toInt % 4294967296 * F.toInt) % P.toInt = (x.toInt % 4294967296 * F.toInt - q * P.toInt) % P.toInt := by
    rw [Int.sub_mul_emod_self_right]
  rw [he]
  generalize x * F - qi * P - P = t at *
  generalize x.toInt % 4294967296 * F.toInt - q * P.toInt = r at *
  have k6 := c_ishr t 31 31 (by decide)
  by_cases hneg : t.toInt < 0
  · have e1 : t >>> ((31 : Int32) &&& 31) = -1 := by
      apply Int32.toInt_inj.mp
      rw [k6]
      have e2 : (-1 : Int32).toInt = -1 := by decide
      rw [e2]; have := rng32 t; omega
    rw [e1, Int32.neg_one_and]
    have k7 := c_iadd t P
    have r7 := rng32 (t + P)
    rw [Int.emod_eq_of_lt (by omega) (by omega)]
    omega
  · have e1 : t >>> ((31 : Int32) &&& 31) = 0 := by
      apply Int32.toInt_inj.mp
      rw [k6]
      have e2 : (0 : Int32).toInt = 0 := by decide
      rw [e2]; have := rng32 t; omega
    rw [e1, Int32.zero_and, Int32.add_zero]
    have : r % P.toInt = (r - P.toInt) % P.toInt := by rw [Int.sub_emod_right]
    rw [this, Int.emod_eq_of_lt (by omega) (by omega)]
    omega
theorem law_true (x a b : Int32) : f0 x a b = 1 := by
  have hP := own_p b
  simp only [f0]
  generalize f1 1 (b &&& 2147483647) = P at *
  have h1 := c_and a 2147483647 (by decide)
  have h2 := (c_iremV (a &&& 2147483647) P).1 h1.1 (by omega)
  generalize (a &&& 2147483647) % P = F at *
  have rP := rng32 P
  have i1 := c_i2l F
  have i2 := c_i2l P
  have s1 := c_lshl F.toInt64 32 32 (by decide)
  have s2 := rng64 (F.toInt64 <<< ((32 : Int32) &&& 0x3f).toInt64)
  have s3 : (F.toInt64 <<< ((32 : Int32) &&& 0x3f).toInt64).toInt = F.toInt * 4294967296 := by rw [i1] at s1; omega
  have s4 : (F.toInt64 <<< ((32 : Int32) &&& 0x3f).toInt64 / P.toInt64).toInt = F.toInt * 4294967296 / P.toInt := by
    rw [Int64.toInt_div_of_ne_right, s3, i2, Int.tdiv_eq_ediv_of_nonneg (by omega)]
    intro h; rw [h] at i2; have : (-1 : Int64).toInt = -1 := by decide
    omega
  have s5 := c_l2i (F.toInt64 <<< ((32 : Int32) &&& 0x3f).toInt64 / P.toInt64)
  rw [s4] at s5
  generalize (F.toInt64 <<< ((32 : Int32) &&& 0x3f).toInt64 / P.toInt64).toInt32 = Q at *
  have s6 : 0 ≤ F.toInt * 4294967296 / P.toInt := Int.ediv_nonneg (by omega) (by omega)
  have s7 : F.toInt * 4294967296 / P.toInt < 4294967296 := Int.ediv_lt_of_lt_mul (by omega) (by rw [Int.mul_comm 4294967296]; exact Int.mul_lt_mul_of_pos_right h2.2.1 (by decide))
  have hm := own_mul x F Q P hP h2.1 h2.2.1 (by omega)
  rw [if_pos]
  apply Int64.toInt_inj.mp
  rw [c_i2l, hm]
  have m1 : (x.toInt64 &&& (4294967295 : Int64)).toInt = x.toInt % 4294967296 := by
    have := c_maskL x.toInt64 4294967295 32 (by decide) (by decide)
    rw [c_i2l] at this; exact this
  have n1 : (((x.toInt64 &&& (4294967295 : Int64)) % P.toInt64)).toInt = x.toInt % 4294967296 % P.toInt := by
    rw [Int64.toInt_mod, m1, i2, Int.tmod_eq_emod_of_nonneg (by omega)]
  have n2 := c_lmul ((x.toInt64 &&& (4294967295 : Int64)) % P.toInt64) F.toInt64
  have n3 := rng64 (((x.toInt64 &&& (4294967295 : Int64)) % P.toInt64) * F.toInt64)
  rw [n1, i1] at n2
  have n4 : 0 ≤ x.toInt % 4294967296 % P.toInt ∧ x.toInt % 4294967296 % P.toInt < P.toInt := ⟨Int.emod_nonneg _ (by omega), Int.emod_lt_of_pos _ (by omega)⟩
  have n5 : 0 ≤ x.toInt % 4294967296 % P.toInt * F.toInt := Int.mul_nonneg n4.1 h2.1
  have n6 : x.toInt % 4294967296 % P.toInt * F.toInt ≤ 2147483647 * 2147483647 := Int.mul_le_mul (by omega) (by omega) h2.1 (by decide)
  have n7 : (((x.toInt64 &&& (4294967295 : Int64)) % P.toInt64) * F.toInt64).toInt = x.toInt % 4294967296 % P.toInt * F.toInt := by
    generalize x.toInt % 4294967296 % P.toInt * F.toInt = w at *
    omega
  have n8 : x.toInt % 4294967296 % P.toInt * F.toInt % P.toInt = x.toInt % 4294967296 * F.toInt % P.toInt := by
    rw [Int.mul_emod, Int.emod_emod, ← Int.mul_emod]
  rw [Int64.toInt_mod, n7, i2, Int.tmod_eq_emod_of_nonneg n5, n8]

set_option maxRecDepth 65536 in
set_option maxHeartbeats 40000000 in
theorem comes_1 {Post : Tables → Env → Array Value → State → Outcome → State → Prop} (hpost : ∀ tb e args s v u, (limb_1_1.after args s (.returned v) u = true ∧ limb_1_2.after args s (.returned v) u = true ∧ True) → FrameEnd s (.returned v) u (Jvm.fieldLocs frame_1_writes args s ++ Jvm.arrayLocs frame_1_arrays args s ++ Jvm.staticLocs frame_1_statics s) 0 0 → Post tb e args s (.returned v) u) :
    ArmFor flags0 classFile x code maxLocals ret World_1 tables_1 room_1 Calls_1 rest_1 Pre_1 Post := by
  intro l hfl _ _ p e ha hc hk s m args below hf hA hF happ hP
  obtain ⟨hcalls, hrest, hpre⟩ := hP
  obtain ⟨-, -, -, hnamed, -, -, -, hat⟩ := (Spec.applies_iff hf).mp happ
  obtain ⟨hg, hn⟩ := and_e (Cond.before_iff.mp (show (Jvm.Cond.and given_1 narrow_1).before args s = true from hpre))
  obtain ⟨g0, hg⟩ := and_e hg
  obtain ⟨ga0, hg⟩ := and_e hg
  obtain ⟨ga1, hg⟩ := and_e hg
  have ga2 := hg
  obtain ⟨w0, w1, w2, rfl⟩ : ∃ w0 w1 w2 : Value, args = #[w0, w1, w2] := by
    have hs : args.size = 3 := by simpa [Cond.value, given_1] using g0
    obtain ⟨L⟩ := args
    match L, hs with
    | [w0, w1, w2], _ => exact ⟨w0, w1, w2, rfl⟩
  have hw := fun d (hd : d ∈ tables_1) => atoms_spec (ws := Jvm.Cond.code x code maxLocals ret :: tables_1) hat d (List.mem_cons_of_mem _ hd)
  have hfit : Fit s := fun {y c} hc i hi => by
    obtain ⟨ha, rfl⟩ := Array.getElem?_eq_some_iff.mp hc
    have q := List.all_eq_true.mp ((Array.all_eq_true_iff_forall_mem.mp hF) _ (Array.getElem_mem ha)) i (List.mem_range.mpr hi)
    simpa [Array.getElem?_eq_getElem hi] using q
  obtain ⟨i0, ei0⟩ := is_v ga0
  obtain rfl : w0 = (.int i0) := Option.some.inj ei0
  obtain ⟨i1, ei1⟩ := is_v ga1
  obtain rfl : w1 = (.int i1) := Option.some.inj ei1
  obtain ⟨i2, ei2⟩ := is_v ga2
  obtain rfl : w2 = (.int i2) := Option.some.inj ei2
  obtain ⟨n, o, h1, h2, h3, v, L, rfl, hQ, hq⟩ := rm0 l s _ hw tables_1 i0 i1 i2  s.heap s.heap.size (Nat.le_refl _) (pre1 i2) (pre2 i2) (pre2 i2) (pre2 i2) p e ha hc hk s m _ below hf ((Spec.applies_iff_loose hf).mp happ).1 ⟨rfl, State.Warmed39.refl s, rfl⟩ trivial
  obtain ⟨hv, N, -⟩ := hQ
  rw [law_true i0 i1 i2] at hv
  subst hv
  refine ⟨n, _, h1, h2, h3, hpost _ _ _ _ _ _ ⟨Cond.after_iff.mpr rfl, Cond.after_iff.mpr (eq_i res_at (Term.int_eval (1)) rfl), trivial⟩ ⟨hq.1, hq.2.1, (hq.2.2.sift fun y hy => Or.inr (N y hy)).mono (by decide) (by decide)⟩⟩
theorem main_1_1 : Claimed_1_1 := comes_1 fun _ _ _ _ _ _ h hF => ⟨h.1, hF⟩
theorem main_1_2 : Claimed_1_2 := comes_1 fun _ _ _ _ _ _ h hF => ⟨h.2.1, hF⟩
end Jvm.Pilot.@@N@@
namespace Jvm.Pilot.@@N@@
open Jvm Jvm.ClassFile Sem Op Lib Jvm.Free Jvm.Stand Jvm.Pilot.@@N@@.Jvm.D
/-! MADE BY PROGRAM (witnessworld.py) out of the Statement's table words and the real class files: 10 classes; the members and pool entries that the words name. The judged class is class 1, her method 1. -/
namespace start1
open Jvm.ClassFile
def u (s : String) : CpInfo := .utf8 (stringToUtf16 s)
/-- a pool by its gaps: so many unusable entries, then the entry; so many at the end -/
def gap : Nat → List CpInfo → List CpInfo
  | 0, r => r
  | n + 1, r => .unusable :: gap n r
def poolList (es : List (Nat × CpInfo)) (last : Nat) : List CpInfo := es.foldr (fun e r => gap e.1 (e.2 :: r)) (gap last [])
def pool (es : List (Nat × CpInfo)) (last : Nat) : Array CpInfo := ⟨poolList es last⟩
def fileOf (pool : Array CpInfo) (this : Nat) (attrs : Array Attribute := #[]) (ms : Array MethodInfo := #[]) (fl : Nat := 33) (sup : Nat := 0) (ifs : Array Nat := #[]) (fds : Array FieldInfo := #[]) : ClassFile where
  minorVersion := 0
  majorVersion := 65
  constantPool := pool
  accessFlags := fl
  thisClass := this
  superClass := sup
  interfaces := ifs
  fields := fds
  methods := ms
  attributes := attrs
def plain (name : String) (sup : Option ClassId) : Class where
  name := name
  kind := .ordinary
  loader := none
  accessFlags := 33
  super := sup
  interfaces := #[]
  cf := none
  fields := #[]
  methods := #[]
  instanceTypes := #[]
  staticTypes := #[]
  resolved := #[]
  callSites := []
  init := .initialized
  statics := none
  mirror := none

def pool0 : Array CpInfo := pool [(5, u "<init>"), (0, u "()V"), (1, .class_ 10), (1, u "java/lang/Object")] 113

def k0m0 : Method := { name := "<init>", desc := "()V", sig := { parameters := [], returnType := none }, accessFlags := 1, code := none }
/-- java/lang/Object -/
def k0 : Class := { plain "java/lang/Object" none with
  accessFlags := 33
  interfaces := #[]
  cf := some (fileOf pool0 8 #[] #[{ accessFlags := 1, nameIndex := 5, descriptorIndex := 6, attributes := #[] }] 33 0 #[] #[])
  fields := #[]
  methods := #[k0m0]
  instanceTypes := #[]
  staticTypes := #[]
  resolved := Array.replicate 124 none
  statics := none }

def pool1 : Array CpInfo := pool [(2, .class_ 4), (1, u "java/lang/Object"), (0, u "<init>"), (0, u "()V"), (0, .integer 2147483647), (0, .methodref 9 10), (0, .class_ 11), (0, .nameAndType 12 13), (0, u "java/lang/Math"), (0, u "max"), (0, u "(II)I"), (0, .methodref 15 16), (0, .class_ 17), (0, .nameAndType 18 19), (0, u "com/example/tinwire/tinwire/json/Transform"), (0, u "multiply"), (0, u "(IIII)I"), (0, .long 4294967295), (1, .class_ 23), (0, u "com/example/tinwire/tinwire/json/TransformMultiplyPinLaw"), (2, u "law"), (0, u "(III)Z")] 3

def k1m0 : Method := { name := "<init>", desc := "()V", sig := { parameters := [], returnType := none }, accessFlags := 1, code := none }
def k1c1 : Code := { maxStack := 4, maxLocals := 11, code := code, exceptionTable := #[], attributes := #[] }
def k1m1 : Method := { name := "law", desc := "(III)Z", sig := { parameters := [.int, .int, .int], returnType := some .boolean }, accessFlags := 9, code := some k1c1 }
/-- com/example/tinwire/tinwire/json/TransformMultiplyPinLaw -/
def k1 : Class := { plain "com/example/tinwire/tinwire/json/TransformMultiplyPinLaw" (some 0) with
  accessFlags := 49
  interfaces := #[]
  cf := some (fileOf pool1 22 #[] #[{ accessFlags := 1, nameIndex := 5, descriptorIndex := 6, attributes := #[] }, { accessFlags := 9, nameIndex := 26, descriptorIndex := 27, attributes := #[] }] 49 2 #[] #[])
  fields := #[]
  methods := #[k1m0, k1m1]
  instanceTypes := #[]
  staticTypes := #[]
  resolved := Array.replicate 31 none
  statics := none }

def pool2 : Array CpInfo := pool [(1, .class_ 2), (0, u "java/lang/Math"), (1, .class_ 6), (1, u "java/lang/Object"), (0, u "<init>"), (0, u "()V"), (89, .class_ 100), (1, u "java/lang/Math$RandomNumberGeneratorHolder"), (71, u "negativeZeroFloatBits"), (0, u "J"), (2, u "negativeZeroDoubleBits"), (21, u "max"), (46, u "$assertionsDisabled"), (0, u "Z"), (88, u "(II)I"), (2, u "twoToTheDoubleScaleDown"), (0, u "D"), (4, u "twoToTheDoubleScaleUp"), (9, u "E"), (3, u "PI"), (2, u "TAU"), (2, u "DEGREES_TO_RADIANS"), (0, u "RADIANS_TO_DEGREES")] 94

def k2m0 : Method := { name := "<init>", desc := "()V", sig := { parameters := [], returnType := none }, accessFlags := 2, code := none }
def k2c1 : Code := { maxStack := 2, maxLocals := 2, code := jdk_29_method_65_code, exceptionTable := #[], attributes := #[] }
def k2m1 : Method := { name := "max", desc := "(II)I", sig := { parameters := [.int, .int], returnType := some .int }, accessFlags := 9, code := some k2c1 }
/-- java/lang/Math -/
def k2 : Class := { plain "java/lang/Math" (some 0) with
  accessFlags := 49
  interfaces := #[]
  cf := some (fileOf pool2 1 #[.nestMembers #[98]] #[{ accessFlags := 2, nameIndex := 7, descriptorIndex := 8, attributes := #[] }, { accessFlags := 9, nameIndex := 198, descriptorIndex := 335, attributes := #[] }] 49 4 #[] #[{ accessFlags := 25, nameIndex := 354, descriptorIndex := 339, attributes := #[] }, { accessFlags := 25, nameIndex := 358, descriptorIndex := 339, attributes := #[] }, { accessFlags := 25, nameIndex := 361, descriptorIndex := 339, attributes := #[] }, { accessFlags := 26, nameIndex := 364, descriptorIndex := 339, attributes := #[] }, { accessFlags := 26, nameIndex := 365, descriptorIndex := 339, attributes := #[] }, { accessFlags := 26, nameIndex := 172, descriptorIndex := 173, attributes := #[] }, { accessFlags := 26, nameIndex := 176, descriptorIndex := 173, attributes := #[] }, { accessFlags := 8, nameIndex := 344, descriptorIndex := 339, attributes := #[] }, { accessFlags := 8, nameIndex := 338, descriptorIndex := 339, attributes := #[] }, { accessFlags := 4120, nameIndex := 245, descriptorIndex := 246, attributes := #[] }])
  fields := #[{ name := "E", type := .double, accessFlags := 25, slot := 0, constantValue := 0 }, { name := "PI", type := .double, accessFlags := 25, slot := 1, constantValue := 0 }, { name := "TAU", type := .double, accessFlags := 25, slot := 2, constantValue := 0 }, { name := "DEGREES_TO_RADIANS", type := .double, accessFlags := 26, slot := 3, constantValue := 0 }, { name := "RADIANS_TO_DEGREES", type := .double, accessFlags := 26, slot := 4, constantValue := 0 }, { name := "negativeZeroFloatBits", type := .long, accessFlags := 26, slot := 5, constantValue := 0 }, { name := "negativeZeroDoubleBits", type := .long, accessFlags := 26, slot := 6, constantValue := 0 }, { name := "twoToTheDoubleScaleUp", type := .double, accessFlags := 8, slot := 7, constantValue := 0 }, { name := "twoToTheDoubleScaleDown", type := .double, accessFlags := 8, slot := 8, constantValue := 0 }, { name := "$assertionsDisabled", type := .boolean, accessFlags := 4120, slot := 9, constantValue := 0 }]
  methods := #[k2m0, k2m1]
  instanceTypes := #[]
  staticTypes := #[.double, .double, .double, .double, .double, .long, .long, .double, .double, .boolean]
  resolved := Array.replicate 460 none
  statics := none }

def pool3 : Array CpInfo := pool [(2, .class_ 4), (1, u "java/lang/Object"), (3, .class_ 10), (1, u "com/example/tinwire/tinwire/json/Transform"), (0, u "PRIMES"), (0, u "[I"), (2, u "prime"), (0, u "I"), (2, u "length"), (2, u "roots"), (2, u "rootQuotients"), (2, u "GENERATORS"), (6, u "outerRoot"), (6, u "outerRootQuotient"), (2, u "negativeInverse"), (6, u "scale"), (2, u "scaleQuotient"), (2, u "multiply"), (0, u "(IIII)I"), (4, .long 4294967295), (13, u "MAX_LENGTH"), (2, u "MASK"), (0, u "J")] 18

def k3c0 : Code := { maxStack := 6, maxLocals := 7, code := prog_48_method_11_code, exceptionTable := #[], attributes := #[] }
def k3m0 : Method := { name := "multiply", desc := "(IIII)I", sig := { parameters := [.int, .int, .int, .int], returnType := some .int }, accessFlags := 8, code := some k3c0 }
/-- com/example/tinwire/tinwire/json/Transform -/
def k3 : Class := { plain "com/example/tinwire/tinwire/json/Transform" (some 0) with
  accessFlags := 48
  interfaces := #[]
  cf := some (fileOf pool3 8 #[] #[{ accessFlags := 8, nameIndex := 58, descriptorIndex := 59, attributes := #[] }] 48 2 #[] #[{ accessFlags := 24, nameIndex := 11, descriptorIndex := 12, attributes := #[] }, { accessFlags := 26, nameIndex := 28, descriptorIndex := 12, attributes := #[] }, { accessFlags := 24, nameIndex := 78, descriptorIndex := 16, attributes := #[] }, { accessFlags := 26, nameIndex := 81, descriptorIndex := 82, attributes := #[] }, { accessFlags := 18, nameIndex := 15, descriptorIndex := 16, attributes := #[] }, { accessFlags := 18, nameIndex := 19, descriptorIndex := 16, attributes := #[] }, { accessFlags := 18, nameIndex := 22, descriptorIndex := 12, attributes := #[] }, { accessFlags := 18, nameIndex := 25, descriptorIndex := 12, attributes := #[] }, { accessFlags := 18, nameIndex := 35, descriptorIndex := 16, attributes := #[] }, { accessFlags := 18, nameIndex := 42, descriptorIndex := 16, attributes := #[] }, { accessFlags := 18, nameIndex := 45, descriptorIndex := 16, attributes := #[] }, { accessFlags := 18, nameIndex := 52, descriptorIndex := 16, attributes := #[] }, { accessFlags := 18, nameIndex := 55, descriptorIndex := 16, attributes := #[] }])
  fields := #[{ name := "PRIMES", type := (.array .int), accessFlags := 24, slot := 0, constantValue := 0 }, { name := "GENERATORS", type := (.array .int), accessFlags := 26, slot := 1, constantValue := 0 }, { name := "MAX_LENGTH", type := .int, accessFlags := 24, slot := 2, constantValue := 0 }, { name := "MASK", type := .long, accessFlags := 26, slot := 3, constantValue := 0 }, { name := "prime", type := .int, accessFlags := 18, slot := 0, constantValue := 0 }, { name := "length", type := .int, accessFlags := 18, slot := 1, constantValue := 0 }, { name := "roots", type := (.array .int), accessFlags := 18, slot := 2, constantValue := 0 }, { name := "rootQuotients", type := (.array .int), accessFlags := 18, slot := 3, constantValue := 0 }, { name := "outerRoot", type := .int, accessFlags := 18, slot := 4, constantValue := 0 }, { name := "outerRootQuotient", type := .int, accessFlags := 18, slot := 5, constantValue := 0 }, { name := "negativeInverse", type := .int, accessFlags := 18, slot := 6, constantValue := 0 }, { name := "scale", type := .int, accessFlags := 18, slot := 7, constantValue := 0 }, { name := "scaleQuotient", type := .int, accessFlags := 18, slot := 8, constantValue := 0 }]
  methods := #[k3m0]
  instanceTypes := #[.int, .int, (.array .int), (.array .int), .int, .int, .int, .int, .int]
  staticTypes := #[(.array .int), (.array .int), .int, .long]
  resolved := Array.replicate 101 none
  statics := none }

def pool4 : Array CpInfo := pool [(1, u "java/lang/Cloneable"), (0, .class_ 1), (0, u "java/lang/Object"), (0, .class_ 3)] 3

/-- java/lang/Cloneable -/
def k4 : Class := { plain "java/lang/Cloneable" (some 0) with
  accessFlags := 1537
  interfaces := #[]
  cf := some (fileOf pool4 2 #[] #[] 1537 4 #[] #[])
  fields := #[]
  methods := #[]
  instanceTypes := #[]
  staticTypes := #[]
  resolved := Array.replicate 8 none
  statics := none }

def pool5 : Array CpInfo := pool [(1, u "java/io/Serializable"), (0, .class_ 1), (0, u "java/lang/Object"), (0, .class_ 3)] 3

/-- java/io/Serializable -/
def k5 : Class := { plain "java/io/Serializable" (some 0) with
  accessFlags := 1537
  interfaces := #[]
  cf := some (fileOf pool5 2 #[] #[] 1537 4 #[] #[])
  fields := #[]
  methods := #[]
  instanceTypes := #[]
  staticTypes := #[]
  resolved := Array.replicate 8 none
  statics := none }

/-- the primitive byte -/
def k6 : Class := { plain "byte" none with kind := .primitive 'B', accessFlags := 0x411 }
/-- [B -/
def k7 : Class := { plain "[B" (some 0) with kind := .array 6 .byte, interfaces := #[4, 5], accessFlags := 1041 }

/-- the primitive int -/
def k8 : Class := { plain "int" none with kind := .primitive 'I', accessFlags := 0x411 }
/-- [I -/
def k9 : Class := { plain "[I" (some 0) with kind := .array 8 .int, interfaces := #[4, 5], accessFlags := 1041 }

def heap : Heap := #[]
def classes : Array Class := #[k0, k1, k2, k3, k4, k5, k6, k7, k8, k9]
def interned : List (Array UInt16 × Addr) := []
def slotsUsed : Nat := 0
def theMethod : MethodId := ⟨1, 1⟩
def args0 : Array Value := #[.int 5, .int 7, .int 100]
def aboutOver (below : List Frame) : State where
  vm := { classes := classes, interned := interned.toArray }
  heap := heap
  slotsUsed := slotsUsed
  threads := #[{ frames := .invoking theMethod args0 :: below }]
def below0 : List Frame := [.native { method := ⟨0, 0⟩, args := #[] }]
def about1 : State := aboutOver below0
def p0 : Program := .bare "" "" ""
def e0 : Env := launch0.env 0 0 0
theorem w_frames : about1.frames = Frame.invoking theMethod args0 :: below0 := rfl
set_option maxRecDepth 65536 in
theorem w_args : argsFit about1.vm theMethod args0 = true := by decide +kernel
set_option maxRecDepth 65536 in
theorem w_heap : heapFits about1 = true := by decide +kernel
set_option maxRecDepth 65536 in
theorem w_runnable : about1.curStatus? = some .runnable := by decide +kernel
set_option maxRecDepth 65536 in
theorem w_alone : about1.alone = true := by decide +kernel
set_option maxRecDepth 65536 in
theorem w_named : about1.methodNamed? x = some theMethod := by decide +kernel
set_option maxRecDepth 65536 in
theorem w_hears : about1.hears theMethod below0 = true := by decide +kernel
set_option maxRecDepth 65536 in
theorem w_ripe : about1.ripe theMethod args0 below0 = true := by decide +kernel
theorem w_running : about1.status = .running := rfl
set_option maxRecDepth 65536 in
theorem w_room : about1.hasRoom e0.platform room_1 = true :=
  launch0.hasRoom_least _ room_1 (by decide +kernel) (by decide +kernel) (by decide +kernel) (by decide +kernel) (by decide +kernel) (by decide +kernel)
theorem allAtoms_all (ts : List Jvm.Cond) (a : Array Jvm.Value) (st : Jvm.State) : (allAtoms ts).before a st = ts.all (fun c => c.before a st) := by
  induction ts with
  | nil => rfl
  | cons c t ih =>
    show (Jvm.Cond.and c (allAtoms t)).before a st = _
    rw [Jvm.Cond.before_and, ih, List.all_cons]
def words1 : List Jvm.Cond := Jvm.Cond.code x code maxLocals ret :: tables_1
/-- a 'code' word, met by the world's own term for the bytes: nothing is compared byte by byte -/
theorem code_word {y : MethodName} {bytes : ByteArray} {mx : Nat} {rt : Option FieldType} {a : Array Value} {s : State} {m : MethodId} {meth : Method} {c : Code} (h1 : s.methodNamed? y = some m) (h2 : s.vm.method? m = some meth) (h3 : meth.code = some c) (h4 : c.code = bytes)
    (h5 : (c.maxLocals == mx && c.exceptionTable.isEmpty && decide (c.maxStack ≤ mostOperands) && decide (meth.sig.returnType = rt) && !meth.locks && decide (parseMethodDescriptor y.desc = some meth.sig)) = true) : (Jvm.Cond.code y bytes mx rt).before a s = true := by
  simp only [Bool.and_eq_true, beq_iff_eq, Bool.not_eq_true', decide_eq_true_eq] at h5
  obtain ⟨⟨⟨⟨⟨g1, g2⟩, g3⟩, g4⟩, g5⟩, g6⟩ := h5
  simp [Cond.before, Cond.holds, Cond.value, h1, h2, h3, h4, g1, g2, g3, g4, g5, g6]
def isCode : Jvm.Cond → Bool
  | .code _ _ _ _ => true
  | _ => false
theorem all_split {L : List Jvm.Cond} {P : Jvm.Cond → Bool} (h1 : L.all (fun c => isCode c || P c) = true) (h2 : ∀ c ∈ L.filter isCode, P c = true) : L.all P = true := by
  refine List.all_eq_true.mpr fun c hc => ?_
  have h := List.all_eq_true.mp h1 c hc
  rcases Bool.eq_false_or_eq_true (isCode c) with hi | hi
  · exact h2 c (List.mem_filter.mpr ⟨hc, hi⟩)
  · simpa [hi] using h
set_option maxRecDepth 65536 in
theorem w_c0 : (Jvm.Cond.code x code maxLocals ret).before args0 about1 = true := code_word (m := ⟨1, 1⟩) (meth := k1m1) (c := k1c1) (by decide +kernel) rfl rfl rfl (by decide +kernel)
set_option maxRecDepth 65536 in
theorem w_c1 : (Jvm.Cond.code ({ cls := "java/lang/Math", name := "max", desc := "(II)I" } : Jvm.MethodName) jdk_29_method_65_code (2 : Nat) (Option.some Jvm.ClassFile.FieldType.int)).before args0 about1 = true := code_word (m := ⟨2, 1⟩) (meth := k2m1) (c := k2c1) (by decide +kernel) rfl rfl rfl (by decide +kernel)
set_option maxRecDepth 65536 in
theorem w_c2 : (Jvm.Cond.code ({ cls := "com/example/tinwire/tinwire/json/Transform", name := "multiply", desc := "(IIII)I" } : Jvm.MethodName) prog_48_method_11_code (7 : Nat) (Option.some Jvm.ClassFile.FieldType.int)).before args0 about1 = true := code_word (m := ⟨3, 0⟩) (meth := k3m0) (c := k3c0) (by decide +kernel) rfl rfl rfl (by decide +kernel)
def codes1 : List Jvm.Cond := [Jvm.Cond.code x code maxLocals ret, Jvm.Cond.code ({ cls := "java/lang/Math", name := "max", desc := "(II)I" } : Jvm.MethodName) jdk_29_method_65_code (2 : Nat) (Option.some Jvm.ClassFile.FieldType.int), Jvm.Cond.code ({ cls := "com/example/tinwire/tinwire/json/Transform", name := "multiply", desc := "(IIII)I" } : Jvm.MethodName) prog_48_method_11_code (7 : Nat) (Option.some Jvm.ClassFile.FieldType.int)]
set_option maxRecDepth 65536 in
theorem codes_eq : words1.filter isCode = codes1 := rfl
theorem w_codes : ∀ c ∈ words1.filter isCode, c.before args0 about1 = true := by
  rw [codes_eq]
  intro c hc
  simp only [codes1, List.mem_cons, List.not_mem_nil, or_false] at hc
  rcases hc with rfl | rfl | rfl
  · exact w_c0
  · exact w_c1
  · exact w_c2
set_option maxRecDepth 65536 in
theorem w_t1 : words1.all (fun c => isCode c || c.before args0 about1) = true := by decide +kernel
theorem w_tables : (allAtoms (Jvm.Cond.code x code maxLocals ret :: tables_1)).before args0 about1 = true := by
  rw [allAtoms_all]
  show words1.all (fun c => c.before args0 about1) = true
  refine all_split ?_ w_codes
  rw [w_t1]
set_option maxRecDepth 65536 in
theorem w_case : (Jvm.Cond.and given_1 narrow_1).before args0 about1 = true := by decide +kernel
theorem w_applies : (headSpec (Jvm.Cond.code x code maxLocals ret :: tables_1) room_1).applies x e0.platform about1 = true :=
  (Spec.applies_iff w_frames).mpr ⟨w_running, w_runnable, w_alone, w_named, w_hears, w_ripe, w_room, w_tables⟩
theorem atStart : AtStart classFile x code maxLocals ret World_1 tables_1 room_1 Calls_1 rest_1 Pre_1 launch0 p0 e0 about1 theMethod args0 below0 :=
  ⟨lists_1, trivial, launch0.admits_env _ _ _, launch0.least_env, fairChoices_fair.cas, fairChoices_fair.clock, w_frames, w_args, w_heap, w_applies, trivial, trivial, w_case⟩
end start1
theorem witness_1 : WitnessClaimed_1 := ⟨start1.p0, start1.e0, start1.about1, start1.theMethod, start1.args0, start1.below0, start1.atStart⟩
end Jvm.Pilot.@@N@@
