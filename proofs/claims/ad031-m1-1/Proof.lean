import JvmDerived
import JvmDerived.Pilot.@@N@@Statement
import JvmDerived.Pilot.@@N@@Code
set_option linter.unusedVariables false
set_option linter.unusedSimpArgs false
namespace Jvm.OwnKit
open Sem ClassFile Op Lib Jvm.Stand Jvm.Free Jvm.LawKit Jvm.RoadKit
/-- from S the run comes to a state of which Φ holds -/
def Go (p : Program) (e : Env) (below : List Frame) (Φ : State → Prop) (S : State) : Prop := ∃ u, Steps p.tables e below S u ∧ Φ u
theorem Go.step {p : Program} {e : Env} {below : List Frame} {Φ : State → Prop} {S S' : State} (h : ∀ t, Steps p.tables e below S' t → Steps p.tables e below S t) (k : Go p e below Φ S') : Go p e below Φ S := by
  obtain ⟨u, q, r⟩ := k
  exact ⟨u, h u q, r⟩
theorem Go.trans {p : Program} {e : Env} {below : List Frame} {Φ : State → Prop} {S S' : State} (h : Steps p.tables e below S S') (k : Go p e below Φ S') : Go p e below Φ S := by
  obtain ⟨u, q, r⟩ := k
  exact ⟨u, Steps.trans h q, r⟩
theorem Go.here {p : Program} {e : Env} {below : List Frame} {Φ : State → Prop} {S : State} (k : Φ S) : Go p e below Φ S := ⟨S, Steps.refl _, k⟩
/-- the end of a body -/
def FinQ (below : List Frame) (s : State) (Q : Option Value → Heap → List Loc → Prop) (k n : Nat) (u : State) : Prop :=
  ∃ o, u.status = .running ∧ Ended u below o ∧ ∃ v L, o = .returned v ∧ Q v u.heap L ∧ FrameEnd s o u L k n
theorem Go.done {p : Program} {e : Env} {below : List Frame} {s : State} {Q : Option Value → Heap → List Loc → Prop} {k n : Nat} {S : State} (h : Go p e below (FinQ below s Q k n) S) :
    ∃ s₂ o, Steps p.tables e below S s₂ ∧ s₂.status = .running ∧ Ended s₂ below o ∧ ∃ v L, o = .returned v ∧ Q v s₂.heap L ∧ FrameEnd s o s₂ L k n := by
  obtain ⟨u, q, o, r1, r2, r3⟩ := h
  exact ⟨u, o, q, r1, r2, r3⟩
section New
variable {p : Program} {l : Launch} {e : Env} {R : Room} {s : State} {m : MethodId} {args : Array Value} {below : List Frame} {meth : Method} {c : Code} {T : State} {locs : List Loc} {cells slots : Nat}
/-- the run stands at the frame F, in a heap h -/
def AtF (p : Program) (l : Launch) (e : Env) (R : Room) (s : State) (m : MethodId) (args : Array Value) (below : List Frame) (meth : Method) (c : Code) (n0 cells slots : Nat) (h : Heap) (F : JFrame) (u : State) : Prop :=
  ∃ T' locs', u = T'.setTop F ∧ Stand p l e R s m args below meth c T' locs' cells slots ∧ Fr n0 locs' ∧ T'.heap = h
theorem retG {pc : Nat} {Ls : Array Slot} {w : Value} {t : FieldType} {i : Instr} {rest : List Value} {Q : Option Value → Heap → List Loc → Prop} {k n : Nat}
    (X : Stand p l e R s m args below meth c T locs cells slots) (hx : p.tables.exec = Jvm.exec) (hlocks : meth.locks = false) (hret : meth.sig.returnType = some t) (hn : narrow t w = w)
    (hi : (i = .ireturn ∧ (t = .int ∨ t = .boolean ∨ t = .byte ∨ t = .char ∨ t = .short) ∧ ∃ z, w = .int z) ∨ (i = .lreturn ∧ t = .long ∧ ∃ z, w = .long z) ∨ (i = .dreturn ∧ t = .double ∧ ∃ z, w = .double z) ∨ (i = .freturn ∧ t = .float ∧ ∃ z, w = .float z) ∨ (i = .areturn ∧ t.isReference = true ∧ w.isRef = true))
    (hd : decode c.code pc = .ok (i, 1)) (hQ : Q (some w) T.heap locs) (hc : cells ≤ k) (hs : slots ≤ n) : Go p e below (FinQ below s Q k n) (T.setTop (mkF m pc Ls (w :: rest))) := by
  obtain ⟨fs, hr, hrun, hended, hW, hsame⟩ := X.leave (v := some w) (fun h => by rw [hret] at h; cases h) hlocks
  exact ⟨_, retOut X hx hret hn hi hd hr, _, hrun, hended, _, _, rfl, hQ, ⟨_, rfl⟩, hW, hsame.mono hc hs⟩
theorem retGI {pc : Nat} {Ls : Array Slot} {z : Int32} {rest : List Value} {Q : Option Value → Heap → List Loc → Prop} {k n : Nat}
    (X : Stand p l e R s m args below meth c T locs cells slots) (hx : p.tables.exec = Jvm.exec) (hlocks : meth.locks = false) (hret : meth.sig.returnType = some .int)
    (hd : decode c.code pc = .ok (.ireturn, 1)) (hQ : Q (some (.int z)) T.heap locs) (hc : cells ≤ k) (hs : slots ≤ n) : Go p e below (FinQ below s Q k n) (T.setTop (mkF m pc Ls (.int z :: rest))) :=
  retG X hx hlocks hret rfl (Or.inl ⟨rfl, Or.inl rfl, _, rfl⟩) hd hQ hc hs
theorem retGJ {pc : Nat} {Ls : Array Slot} {z : Int64} {rest : List Value} {Q : Option Value → Heap → List Loc → Prop} {k n : Nat}
    (X : Stand p l e R s m args below meth c T locs cells slots) (hx : p.tables.exec = Jvm.exec) (hlocks : meth.locks = false) (hret : meth.sig.returnType = some .long)
    (hd : decode c.code pc = .ok (.lreturn, 1)) (hQ : Q (some (.long z)) T.heap locs) (hc : cells ≤ k) (hs : slots ≤ n) : Go p e below (FinQ below s Q k n) (T.setTop (mkF m pc Ls (.long z :: rest))) :=
  retG X hx hlocks hret rfl (Or.inr (Or.inl ⟨rfl, rfl, _, rfl⟩)) hd hQ hc hs
theorem retGR {pc : Nat} {Ls : Array Slot} {a : Addr} {t : FieldType} {rest : List Value} {Q : Option Value → Heap → List Loc → Prop} {k n : Nat}
    (X : Stand p l e R s m args below meth c T locs cells slots) (hx : p.tables.exec = Jvm.exec) (hlocks : meth.locks = false) (hret : meth.sig.returnType = some t) (ht : t.isReference = true) (hn : narrow t (.ref a) = .ref a)
    (hd : decode c.code pc = .ok (.areturn, 1)) (hQ : Q (some (.ref a)) T.heap locs) (hc : cells ≤ k) (hs : slots ≤ n) : Go p e below (FinQ below s Q k n) (T.setTop (mkF m pc Ls (.ref a :: rest))) :=
  retG X hx hlocks hret hn (Or.inr (Or.inr (Or.inr (Or.inr ⟨rfl, ht, rfl⟩)))) hd hQ hc hs
theorem retGN {pc : Nat} {Ls : Array Slot} {z z' : Int32} {t : FieldType} {rest : List Value} {Q : Option Value → Heap → List Loc → Prop} {k n : Nat}
    (X : Stand p l e R s m args below meth c T locs cells slots) (hx : p.tables.exec = Jvm.exec) (hlocks : meth.locks = false) (hret : meth.sig.returnType = some t) (ht : t = .boolean ∨ t = .byte ∨ t = .char ∨ t = .short) (hz : nar t z = z')
    (hd : decode c.code pc = .ok (.ireturn, 1)) (hQ : Q (some (.int z')) T.heap locs) (hc : cells ≤ k) (hs : slots ≤ n) : Go p e below (FinQ below s Q k n) (T.setTop (mkF m pc Ls (.int z :: rest))) := by
  subst hz
  obtain ⟨fs, hr, hrun, hended, hW, hsame⟩ := X.leave (v := some (.int (nar t z))) (fun h => by rw [hret] at h; cases h) hlocks
  exact ⟨_, retN X hx hret ht hd hr, _, hrun, hended, _, _, rfl, hQ, ⟨_, rfl⟩, hW, hsame.mono hc hs⟩
theorem retGV {pc : Nat} {Ls : Array Slot} {Q : Option Value → Heap → List Loc → Prop} {k n : Nat}
    (X : Stand p l e R s m args below meth c T locs cells slots) (hx : p.tables.exec = Jvm.exec) (hlocks : meth.locks = false) (hret : meth.sig.returnType = none)
    (hd : decode c.code pc = .ok (.return_, 1)) (hQ : Q none T.heap locs) (hc : cells ≤ k) (hs : slots ≤ n) : Go p e below (FinQ below s Q k n) (T.setTop (mkF m pc Ls [])) := by
  obtain ⟨fs, hr, hrun, hended, hW, hsame⟩ := X.leave (v := none) (fun _ => rfl) hlocks
  exact ⟨_, X.returnOut hx hret hd hr, _, hrun, hended, _, _, rfl, hQ, ⟨_, rfl⟩, hW, hsame.mono hc hs⟩
end New
/-- a body that writes nothing and returns r -/
def QP (r : Value) (h0 : Heap) (n0 : Nat) (v : Option Value) (h : Heap) (L : List Loc) : Prop := v = some r ∧ Fr n0 L ∧ h = h0
def QV (h0 : Heap) (n0 : Nat) (v : Option Value) (h : Heap) (L : List Loc) : Prop := v = none ∧ Fr n0 L ∧ h = h0
/-- a law: it returns r and writes nothing old -/
def QL (r : Value) (n0 : Nat) (v : Option Value) (h : Heap) (L : List Loc) : Prop := v = some r ∧ Fr n0 L
theorem remI (x y : Int32) : x - (x / y) * y = x % y := by
  rw [← Int32.toInt_inj, Int32.toInt_sub, Int32.toInt_mul, Int32.toInt_div, Int32.toInt_mod]
  have h := Int.tmod_add_mul_tdiv x.toInt y.toInt
  have r : (x.toInt.tmod y.toInt).bmod (2 ^ 32) = x.toInt.tmod y.toInt := by
    have := Int32.toInt_bmod (x % y)
    rwa [Int32.toInt_mod] at this
  rw [← r]
  have e : ((x.toInt.tdiv y.toInt).bmod (2 ^ 32) * y.toInt).bmod (2 ^ 32) = (x.toInt.tdiv y.toInt * y.toInt).bmod (2 ^ 32) := by simp
  rw [e, Int.sub_bmod_bmod]
  congr 1
  have := Int.mul_comm (x.toInt.tdiv y.toInt) y.toInt
  omega
theorem addI {x y : Int32} (h1 : -2147483648 ≤ x.toInt + y.toInt) (h2 : x.toInt + y.toInt < 2147483648) : (x + y).toInt = x.toInt + y.toInt := by have := c_iadd x y; have := rng32 (x + y); omega
theorem subI {x y : Int32} (h1 : -2147483648 ≤ x.toInt - y.toInt) (h2 : x.toInt - y.toInt < 2147483648) : (x - y).toInt = x.toInt - y.toInt := by have := c_isub x y; have := rng32 (x - y); omega
theorem mulI {x y : Int32} (h1 : -2147483648 ≤ x.toInt * y.toInt) (h2 : x.toInt * y.toInt < 2147483648) : (x * y).toInt = x.toInt * y.toInt := by have := c_imul x y; have := rng32 (x * y); omega
theorem addL {x y : Int64} (h1 : -9223372036854775808 ≤ x.toInt + y.toInt) (h2 : x.toInt + y.toInt < 9223372036854775808) : (x + y).toInt = x.toInt + y.toInt := by have := c_ladd x y; have := rng64 (x + y); omega
theorem subL {x y : Int64} (h1 : -9223372036854775808 ≤ x.toInt - y.toInt) (h2 : x.toInt - y.toInt < 9223372036854775808) : (x - y).toInt = x.toInt - y.toInt := by have := c_lsub x y; have := rng64 (x - y); omega
theorem mulL {x y : Int64} (h1 : -9223372036854775808 ≤ x.toInt * y.toInt) (h2 : x.toInt * y.toInt < 9223372036854775808) : (x * y).toInt = x.toInt * y.toInt := by have := c_lmul x y; have := rng64 (x * y); omega
theorem modI {x y : Int32} (d : Int) (hy : y.toInt = d) (hx : 0 ≤ x.toInt) : (x % y).toInt = x.toInt % d := by rw [Int32.toInt_mod, hy]; exact (tr _ _).1 hx
theorem modL {x y : Int64} (d : Int) (hy : y.toInt = d) (hx : 0 ≤ x.toInt) : (x % y).toInt = x.toInt % d := by rw [Int64.toInt_mod, hy]; exact (tr _ _).1 hx
end Jvm.OwnKit
namespace Jvm.Pilot.@@N@@
open Jvm Jvm.ClassFile Sem Op Lib Jvm.Free Jvm.Stand Jvm.LawKit Jvm.RoadKit Jvm.OwnKit Bundle Jvm.Pilot.@@N@@.Jvm.D
theorem d2_0 : decode jdk_30_method_1_code 0 = .ok (.aload_n 0, 1) := by decide +kernel
theorem d2_1 : decode jdk_30_method_1_code 1 = .ok (.invokespecial 1, 3) := by decide +kernel
theorem d2_4 : decode jdk_30_method_1_code 4 = .ok (.return_, 1) := by decide +kernel
theorem ef_2 (m : MethodId) (a1 : Addr) : entryFrame m #[(.ref a1)] 1 = mkF m 0 #[.val (.ref a1)] [] := by first | (simp [entryFrame, mkF, argsToLocals, Value.category]; done) | rfl
theorem pn_0 : plainName "java/lang/Record" = true := by first | (simp [plainName, overriddenIn]; done) | decide +kernel
set_option maxRecDepth 65536 in
set_option maxHeartbeats 40000000 in
theorem rm2 (l : Launch) (Z : State) (a0 : Array Value) (hw : ∀ d ∈ tables_1, d.before a0 Z = true) (ws : List Jvm.Cond) (a1 : Addr) (h0 : Heap) (n0 : Nat) (Z0 : n0 ≤ h0.size) :
    MetFree l (⟨"java/lang/Record", "<init>", "()V"⟩ : MethodName) (head1 (Jvm.Cond.code (⟨"java/lang/Record", "<init>", "()V"⟩ : MethodName) jdk_30_method_1_code 1 none :: ws) ({ frames := 1, cells := 0, slots := 0, locals := 12 } : Room)) (fun a U => a = #[(.ref a1)] ∧ Z.Warmed39 U.vm ∧ U.heap = h0) (fun _ _ _ _ _ => True) (fun _ U o U' => ∃ v L, o = .returned v ∧ QV h0 n0 v U'.heap L ∧ FrameEnd U o U' L ({ frames := 1, cells := 0, slots := 0, locals := 12 } : Room).cells ({ frames := 1, cells := 0, slots := 0, locals := 12 } : Room).slots) := by
  refine MetFree.of_bodySF (plainFor_of_name pn_0) hisR ?_
  intro p e s m args below meth c s₁ Bd hml0 hP hK
  obtain ⟨rfl, hZ, hh⟩ := hP
  have hx := Bd.exec
  have hby := Bd.bytes
  have hml : c.maxLocals = 1 := hml0
  have hown : s.vm.findClass "java/lang/Record" = some m.cls := findClass_of_methodNamed Bd.named
  have hnm := (name_of_methodNamed Bd.named Bd.method).1
  have X0 : Stand p l e ({ frames := 1, cells := 0, slots := 0, locals := 12 } : Room) s m #[(.ref a1)] below meth c s₁ [] 0 0 := Stand.of_body Bd
  have e0 : s₁.heap = h0 := by rw [← hh, Bd.state]; rfl
  have N0 := Fr.nil n0
  refine Go.done (Go.step (fun t k => castTop (ef_2 m a1) k) ?_)
  have KK0 : Keep h0 h0 [] := Keep.refl _ _
  show Go p e below _ (s₁.setTop (mkF m 0 #[.val (.ref a1)] []))
  refine Go.step (fun t k => XS.aloadN X0.here hx rfl (hb hby d2_0) rfl rfl k) ?_
  show Go p e below _ (s₁.setTop (mkF m 1 #[.val (.ref a1)] [(.ref a1)]))
  obtain ⟨T2, X2, e2, st2⟩ := initO X0 hx hZ hown (hw _ (List.mem_of_getElem? (i := 11) rfl)) (hw _ (List.mem_of_getElem? (i := 12) rfl)) (hw _ (List.mem_of_getElem? (i := 13) rfl)) e0 (g := (mkF m 1 #[.val (.ref a1)] [(.ref a1)])) rfl (by rw [hml]; rfl) rfl (hb hby d2_1) (by decide) (W := 0) (by show 2 * 0 + _ ≤ _; exact Nat.le_of_eq rfl) (by decide)
  refine Go.step st2 ?_
  show Go p e below _ (T2.setTop (mkF m 4 #[.val (.ref a1)] []))
  exact retGV X2 hx Bd.notSynchronized Bd.returns (hb hby d2_4) ⟨rfl, N0, e2⟩ (by decide) (by decide)
theorem d1_0 : decode prog_65_method_1_code 0 = .ok (.aload_n 0, 1) := by decide +kernel
theorem d1_1 : decode prog_65_method_1_code 1 = .ok (.invokespecial 1, 3) := by decide +kernel
theorem pd_0 : parseMethodDescriptor "()V" = some ⟨[], none⟩ := by decide +kernel
theorem d1_4 : decode prog_65_method_1_code 4 = .ok (.aload_n 0, 1) := by decide +kernel
theorem d1_5 : decode prog_65_method_1_code 5 = .ok (.lload_n 1, 1) := by decide +kernel
theorem d1_6 : decode prog_65_method_1_code 6 = .ok (.putfield 7, 3) := by decide +kernel
theorem d1_9 : decode prog_65_method_1_code 9 = .ok (.aload_n 0, 1) := by decide +kernel
theorem d1_10 : decode prog_65_method_1_code 10 = .ok (.lload_n 3, 1) := by decide +kernel
theorem d1_11 : decode prog_65_method_1_code 11 = .ok (.putfield 13, 3) := by decide +kernel
theorem d1_14 : decode prog_65_method_1_code 14 = .ok (.return_, 1) := by decide +kernel
theorem ef_1 (m : MethodId) (a1 : Addr) (q2 : Int64) (q3 : Int64) : entryFrame m #[(.ref a1), (.long q2), (.long q3)] 5 = mkF m 0 #[.val (.ref a1), .val (.long q2), .second, .val (.long q3), .second] [] := by first | (simp [entryFrame, mkF, argsToLocals, Value.category]; done) | rfl
theorem pn_1 : plainName "com/example/menshen/menshen/store/UsageStore$Tally" = true := by first | (simp [plainName, overriddenIn]; done) | decide +kernel
def Q1 (Z : State) (a1 : Addr) (q2 : Int64) (q3 : Int64) (w_refused_a1 : Int64) (w_admitted_a1 : Int64) (h0 : Heap) (n0 : Nat) (v : Option Value) (h : Heap) (L : List Loc) : Prop := v = none ∧ Fr n0 L ∧ Keep h0 h [a1] ∧ Fld Z h a1 "com/example/menshen/menshen/store/UsageStore$Tally" "refused" "J" (.long q3) ∧ Exa Z h a1 "com/example/menshen/menshen/store/UsageStore$Tally" ∧ Fld Z h a1 "com/example/menshen/menshen/store/UsageStore$Tally" "admitted" "J" (.long q2)
set_option maxRecDepth 65536 in
set_option maxHeartbeats 40000000 in
theorem rm1 (l : Launch) (Z : State) (a0 : Array Value) (hw : ∀ d ∈ tables_1, d.before a0 Z = true) (ws : List Jvm.Cond) (a1 : Addr) (q2 : Int64) (q3 : Int64) (w_refused_a1 : Int64) (w_admitted_a1 : Int64) (h0 : Heap) (n0 : Nat) (Z0 : n0 ≤ h0.size) (F_refused_a1 : Fld Z h0 a1 "com/example/menshen/menshen/store/UsageStore$Tally" "refused" "J" (.long w_refused_a1)) (E_a1 : Exa Z h0 a1 "com/example/menshen/menshen/store/UsageStore$Tally") (F_admitted_a1 : Fld Z h0 a1 "com/example/menshen/menshen/store/UsageStore$Tally" "admitted" "J" (.long w_admitted_a1)) (g_a1 : n0 ≤ a1) :
    MetFree l (⟨"com/example/menshen/menshen/store/UsageStore$Tally", "<init>", "(JJ)V"⟩ : MethodName) (head1 (Jvm.Cond.code (⟨"com/example/menshen/menshen/store/UsageStore$Tally", "<init>", "(JJ)V"⟩ : MethodName) prog_65_method_1_code 5 none :: ws) ({ frames := 2, cells := 0, slots := 0, locals := 24 } : Room)) (fun a U => a = #[(.ref a1), (.long q2), (.long q3)] ∧ Z.Warmed39 U.vm ∧ U.heap = h0) (fun _ _ _ _ _ => True) (fun _ U o U' => ∃ v L, o = .returned v ∧ Q1 Z a1 q2 q3 w_refused_a1 w_admitted_a1 h0 n0 v U'.heap L ∧ FrameEnd U o U' L ({ frames := 2, cells := 0, slots := 0, locals := 24 } : Room).cells ({ frames := 2, cells := 0, slots := 0, locals := 24 } : Room).slots) := by
  refine MetFree.of_bodySF (plainFor_of_name pn_1) hisR ?_
  intro p e s m args below meth c s₁ Bd hml0 hP hK
  obtain ⟨rfl, hZ, hh⟩ := hP
  have hx := Bd.exec
  have hby := Bd.bytes
  have hml : c.maxLocals = 5 := hml0
  have hown : s.vm.findClass "com/example/menshen/menshen/store/UsageStore$Tally" = some m.cls := findClass_of_methodNamed Bd.named
  have hnm := (name_of_methodNamed Bd.named Bd.method).1
  have X0 : Stand p l e ({ frames := 2, cells := 0, slots := 0, locals := 24 } : Room) s m #[(.ref a1), (.long q2), (.long q3)] below meth c s₁ [] 0 0 := Stand.of_body Bd
  have e0 : s₁.heap = h0 := by rw [← hh, Bd.state]; rfl
  have N0 := Fr.nil n0
  refine Go.done (Go.step (fun t k => castTop (ef_1 m a1 q2 q3) k) ?_)
  have KK0 : Keep h0 h0 [a1] := Keep.refl _ _
  show Go p e below _ (s₁.setTop (mkF m 0 #[.val (.ref a1), .val (.long q2), .second, .val (.long q3), .second] []))
  refine Go.step (fun t k => XS.aloadN X0.here hx rfl (hb hby d1_0) rfl rfl k) ?_
  show Go p e below _ (s₁.setTop (mkF m 1 #[.val (.ref a1), .val (.long q2), .second, .val (.long q3), .second] [(.ref a1)]))
  obtain ⟨_, _, ⟨T4, L4, k4, n4⟩, -, X4, ⟨Lc4, hQ4, l4, y4, z4⟩, st4⟩ := X0.specialBack hx (y := (⟨"java/lang/Record", "<init>", "()V"⟩ : MethodName)) rfl hown (mvT hZ (hw _ (List.mem_of_getElem? (i := 6) rfl))) (mvT hZ (hw _ (List.mem_of_getElem? (i := 7) rfl))) (mvT hZ (hw _ (List.mem_of_getElem? (i := 10) rfl))) (by decide) (backOf (W := 0) (rm2 l Z a0 hw [] a1 h0 n0 Z0) hZ (hw _ (List.mem_of_getElem? (i := 10) rfl)) (hw _ (List.mem_of_getElem? (i := 9) rfl)) (by decide) (by decide)) (g := (mkF m 1 #[.val (.ref a1), .val (.long q2), .second, .val (.long q3), .second] [(.ref a1)])) rfl (by rw [hml]; rfl) (Steps.refl _) (a := a1) (argsL := []) (rest := []) (lenOf pd_0 rfl) rfl (by show 2 * 0 + _ ≤ _; exact Nat.le_of_eq rfl) (hb hby d1_1) (fun _ _ => ⟨rfl, e0, (by decide : 0 + 0 ≤ _), (by decide : 0 + 0 ≤ _)⟩)
  dsimp only [Pt.U, Pt.locs, Pt.cells, Pt.slots] at X4 l4 y4 z4 st4 hQ4
  subst l4 y4 z4
  obtain ⟨rfl, N4q, e4⟩ := hQ4
  have N4 := Fr.app N0 N4q
  refine Go.trans st4 ?_
  show Go p e below _ (T4.setTop (mkF m 4 #[.val (.ref a1), .val (.long q2), .second, .val (.long q3), .second] []))
  refine Go.step (fun t k => XS.aloadN X4.here hx rfl (hb hby d1_4) rfl rfl k) ?_
  show Go p e below _ (T4.setTop (mkF m 5 #[.val (.ref a1), .val (.long q2), .second, .val (.long q3), .second] [(.ref a1)]))
  refine Go.step (fun t k => XS.lloadN X4.here hx rfl (hb hby d1_5) rfl k) ?_
  show Go p e below _ (T4.setTop (mkF m 6 #[.val (.ref a1), .val (.long q2), .second, .val (.long q3), .second] [(.long q2), (.ref a1)]))
  obtain ⟨T5, h5, X5, e5, W5, st5⟩ := putF X4 hx hZ hown (host := "") (Or.inl (hw _ (List.mem_of_getElem? (i := 14) rfl))) Via.refl e4 F_admitted_a1 E_a1 (Or.inr ⟨(hw _ (List.mem_of_getElem? (i := 15) rfl)), rfl, hnm⟩) (hw _ (List.mem_of_getElem? (i := 1) rfl)) (ty := .long) (by decide) rfl rfl (g := (mkF m 6 #[.val (.ref a1), .val (.long q2), .second, .val (.long q3), .second] [(.long q2), (.ref a1)])) rfl rfl (hb hby d1_6)
  refine Go.step st5 ?_
  have N5 := Fr.snoc X5 N4 g_a1
  have F_refused_a1_5 := F_refused_a1.other W5 (Or.inr (slot_ne (Or.inr (hw _ (List.mem_of_getElem? (i := 17) rfl))) (Or.inr (hw _ (List.mem_of_getElem? (i := 15) rfl))) (by decide) (t := .long) (t' := .long) (by decide) (by decide)))
  have E_a1_5 := E_a1.wr W5
  have Z5 := Nat.le_trans Z0 (Keep.of_wr W5).1
  have KK5 : Keep h0 h5 [a1] := KK0.wr W5 (Or.inl (by simp))
  have F_admitted_a1_5 := F_admitted_a1.same W5
  show Go p e below _ (T5.setTop (mkF m 9 #[.val (.ref a1), .val (.long q2), .second, .val (.long q3), .second] []))
  refine Go.step (fun t k => XS.aloadN X5.here hx rfl (hb hby d1_9) rfl rfl k) ?_
  show Go p e below _ (T5.setTop (mkF m 10 #[.val (.ref a1), .val (.long q2), .second, .val (.long q3), .second] [(.ref a1)]))
  refine Go.step (fun t k => XS.lloadN X5.here hx rfl (hb hby d1_10) rfl k) ?_
  show Go p e below _ (T5.setTop (mkF m 11 #[.val (.ref a1), .val (.long q2), .second, .val (.long q3), .second] [(.long q3), (.ref a1)]))
  obtain ⟨T6, h6, X6, e6, W6, st6⟩ := putF X5 hx hZ hown (host := "") (Or.inl (hw _ (List.mem_of_getElem? (i := 16) rfl))) Via.refl e5 F_refused_a1_5 E_a1_5 (Or.inr ⟨(hw _ (List.mem_of_getElem? (i := 17) rfl)), rfl, hnm⟩) (hw _ (List.mem_of_getElem? (i := 1) rfl)) (ty := .long) (by decide) rfl rfl (g := (mkF m 11 #[.val (.ref a1), .val (.long q2), .second, .val (.long q3), .second] [(.long q3), (.ref a1)])) rfl rfl (hb hby d1_11)
  refine Go.step st6 ?_
  have N6 := Fr.snoc X6 N5 g_a1
  have E_a1_6 := E_a1_5.wr W6
  have F_admitted_a1_6 := F_admitted_a1_5.other W6 (Or.inr (slot_ne (Or.inr (hw _ (List.mem_of_getElem? (i := 15) rfl))) (Or.inr (hw _ (List.mem_of_getElem? (i := 17) rfl))) (by decide) (t := .long) (t' := .long) (by decide) (by decide)))
  have Z6 := Nat.le_trans Z5 (Keep.of_wr W6).1
  have KK6 : Keep h0 h6 [a1] := KK5.wr W6 (Or.inl (by simp))
  have F_refused_a1_6 := F_refused_a1_5.same W6
  show Go p e below _ (T6.setTop (mkF m 14 #[.val (.ref a1), .val (.long q2), .second, .val (.long q3), .second] []))
  refine retGV X6 hx Bd.notSynchronized Bd.returns (hb hby d1_14) ?_ (by decide) (by decide)
  show Q1 Z a1 q2 q3 w_refused_a1 w_admitted_a1 h0 n0 _ T6.heap _
  rw [e6]
  exact ⟨rfl, N6, KK6, F_refused_a1_6, E_a1_6, F_admitted_a1_6⟩
theorem d4_0 : decode prog_65_method_2_code 0 = .ok (.new 8, 3) := by decide +kernel
theorem d4_3 : decode prog_65_method_2_code 3 = .ok (.dup, 1) := by decide +kernel
theorem d4_4 : decode prog_65_method_2_code 4 = .ok (.aload_n 0, 1) := by decide +kernel
theorem d4_5 : decode prog_65_method_2_code 5 = .ok (.getfield 7, 3) := by decide +kernel
theorem d4_8 : decode prog_65_method_2_code 8 = .ok (.aload_n 1, 1) := by decide +kernel
theorem d4_9 : decode prog_65_method_2_code 9 = .ok (.getfield 7, 3) := by decide +kernel
theorem d4_12 : decode prog_65_method_2_code 12 = .ok (.ladd, 1) := by decide +kernel
theorem d4_13 : decode prog_65_method_2_code 13 = .ok (.aload_n 0, 1) := by decide +kernel
theorem d4_14 : decode prog_65_method_2_code 14 = .ok (.getfield 13, 3) := by decide +kernel
theorem d4_17 : decode prog_65_method_2_code 17 = .ok (.aload_n 1, 1) := by decide +kernel
theorem d4_18 : decode prog_65_method_2_code 18 = .ok (.getfield 13, 3) := by decide +kernel
theorem d4_21 : decode prog_65_method_2_code 21 = .ok (.ladd, 1) := by decide +kernel
theorem d4_22 : decode prog_65_method_2_code 22 = .ok (.invokespecial 16, 3) := by decide +kernel
theorem pd_1 : parseMethodDescriptor "(JJ)V" = some ⟨[.long, .long], none⟩ := by decide +kernel
theorem d4_25 : decode prog_65_method_2_code 25 = .ok (.areturn, 1) := by decide +kernel
theorem ef_4 (m : MethodId) (a1 : Addr) (a2 : Addr) : entryFrame m #[(.ref a1), (.ref a2)] 2 = mkF m 0 #[.val (.ref a1), .val (.ref a2)] [] := by first | (simp [entryFrame, mkF, argsToLocals, Value.category]; done) | rfl
def Q4 (Z : State) (a1 : Addr) (a2 : Addr) (w_admitted_a1 : Int64) (w_admitted_a2 : Int64) (w_refused_a1 : Int64) (w_refused_a2 : Int64) (h0 : Heap) (n0 : Nat) (v : Option Value) (h : Heap) (L : List Loc) : Prop := ∃ (b3 : Addr), v = some (.ref b3) ∧ Fr n0 L ∧ Keep h0 h [] ∧ h0.size ≤ b3 ∧ Exa Z h b3 "com/example/menshen/menshen/store/UsageStore$Tally" ∧ Fld Z h b3 "com/example/menshen/menshen/store/UsageStore$Tally" "refused" "J" (.long (w_refused_a1 + w_refused_a2)) ∧ Fld Z h b3 "com/example/menshen/menshen/store/UsageStore$Tally" "admitted" "J" (.long (w_admitted_a1 + w_admitted_a2))
set_option maxRecDepth 65536 in
set_option maxHeartbeats 40000000 in
theorem rm4 (l : Launch) (Z : State) (a0 : Array Value) (hw : ∀ d ∈ tables_1, d.before a0 Z = true) (ws : List Jvm.Cond) (a1 : Addr) (a2 : Addr) (w_admitted_a1 : Int64) (w_admitted_a2 : Int64) (w_refused_a1 : Int64) (w_refused_a2 : Int64) (h0 : Heap) (n0 : Nat) (Z0 : n0 ≤ h0.size) (F_admitted_a1 : Fld Z h0 a1 "com/example/menshen/menshen/store/UsageStore$Tally" "admitted" "J" (.long w_admitted_a1)) (F_admitted_a2 : Fld Z h0 a2 "com/example/menshen/menshen/store/UsageStore$Tally" "admitted" "J" (.long w_admitted_a2)) (F_refused_a1 : Fld Z h0 a1 "com/example/menshen/menshen/store/UsageStore$Tally" "refused" "J" (.long w_refused_a1)) (F_refused_a2 : Fld Z h0 a2 "com/example/menshen/menshen/store/UsageStore$Tally" "refused" "J" (.long w_refused_a2)) :
    MetFree l (⟨"com/example/menshen/menshen/store/UsageStore$Tally", "plus", "(Lcom/example/menshen/menshen/store/UsageStore$Tally;)Lcom/example/menshen/menshen/store/UsageStore$Tally;"⟩ : MethodName) (head1 (Jvm.Cond.code (⟨"com/example/menshen/menshen/store/UsageStore$Tally", "plus", "(Lcom/example/menshen/menshen/store/UsageStore$Tally;)Lcom/example/menshen/menshen/store/UsageStore$Tally;"⟩ : MethodName) prog_65_method_2_code 2 (some (.object "com/example/menshen/menshen/store/UsageStore$Tally")) :: ws) ({ frames := 3, cells := 1, slots := 2, locals := 41 } : Room)) (fun a U => a = #[(.ref a1), (.ref a2)] ∧ Z.Warmed39 U.vm ∧ U.heap = h0) (fun _ _ _ _ _ => True) (fun _ U o U' => ∃ v L, o = .returned v ∧ Q4 Z a1 a2 w_admitted_a1 w_admitted_a2 w_refused_a1 w_refused_a2 h0 n0 v U'.heap L ∧ FrameEnd U o U' L ({ frames := 3, cells := 1, slots := 2, locals := 41 } : Room).cells ({ frames := 3, cells := 1, slots := 2, locals := 41 } : Room).slots) := by
  refine MetFree.of_bodySF (plainFor_of_name pn_1) hisR ?_
  intro p e s m args below meth c s₁ Bd hml0 hP hK
  obtain ⟨rfl, hZ, hh⟩ := hP
  have hx := Bd.exec
  have hby := Bd.bytes
  have hml : c.maxLocals = 2 := hml0
  have hown : s.vm.findClass "com/example/menshen/menshen/store/UsageStore$Tally" = some m.cls := findClass_of_methodNamed Bd.named
  have hnm := (name_of_methodNamed Bd.named Bd.method).1
  have X0 : Stand p l e ({ frames := 3, cells := 1, slots := 2, locals := 41 } : Room) s m #[(.ref a1), (.ref a2)] below meth c s₁ [] 0 0 := Stand.of_body Bd
  have e0 : s₁.heap = h0 := by rw [← hh, Bd.state]; rfl
  have N0 := Fr.nil n0
  refine Go.done (Go.step (fun t k => castTop (ef_4 m a1 a2) k) ?_)
  have KK0 : Keep h0 h0 [] := Keep.refl _ _
  show Go p e below _ (s₁.setTop (mkF m 0 #[.val (.ref a1), .val (.ref a2)] []))
  obtain ⟨T3, h3, X3, e3, E3, A3, D3, -, st3⟩ := newO X0 hx hZ hown (hw _ (List.mem_of_getElem? (i := 23) rfl)) (hw _ (List.mem_of_getElem? (i := 1) rfl)) (hw _ (List.mem_of_getElem? (i := 2) rfl)) e0 (g := (mkF m 0 #[.val (.ref a1), .val (.ref a2)] [])) rfl (hb hby d4_0) (by decide) (by decide)
  obtain ⟨b3, g3⟩ : ∃ z, z = h0.size := ⟨_, rfl⟩
  rw [← g3] at A3 D3 st3
  have g_b3 : n0 ≤ b3 := Nat.le_trans Z0 (Nat.le_of_eq g3.symm)
  have sz_b3 : h0.size ≤ b3 := Nat.le_trans KK0.1 (Nat.le_of_eq g3.symm)
  have ne_a1_b3 : a1 ≠ b3 := Nat.ne_of_lt (Nat.lt_of_lt_of_le F_admitted_a1.lt (Nat.le_of_eq g3.symm))
  have ne_a2_b3 : a2 ≠ b3 := Nat.ne_of_lt (Nat.lt_of_lt_of_le F_admitted_a2.lt (Nat.le_of_eq g3.symm))
  refine Go.step st3 ?_
  have F_admitted_a1_3 := F_admitted_a1.ext E3
  have F_admitted_a2_3 := F_admitted_a2.ext E3
  have F_refused_a1_3 := F_refused_a1.ext E3
  have F_refused_a2_3 := F_refused_a2.ext E3
  have Z3 := Nat.le_trans Z0 E3.1
  have KK3 : Keep h0 h3 [] := KK0.ext E3
  have F_admitted_b3 : Fld Z h3 b3 "com/example/menshen/menshen/store/UsageStore$Tally" "admitted" "J" (.long (0 : Int64)) := D3 (Or.inr (hw _ (List.mem_of_getElem? (i := 15) rfl))) (ty := .long) (by decide)
  have F_refused_b3 : Fld Z h3 b3 "com/example/menshen/menshen/store/UsageStore$Tally" "refused" "J" (.long (0 : Int64)) := D3 (Or.inr (hw _ (List.mem_of_getElem? (i := 17) rfl))) (ty := .long) (by decide)
  show Go p e below _ (T3.setTop (mkF m 3 #[.val (.ref a1), .val (.ref a2)] [(.ref b3)]))
  refine Go.step (fun t k => XS.dup X3.here hx rfl (hb hby d4_3) rfl rfl k) ?_
  show Go p e below _ (T3.setTop (mkF m 4 #[.val (.ref a1), .val (.ref a2)] [(.ref b3), (.ref b3)]))
  refine Go.step (fun t k => XS.aloadN X3.here hx rfl (hb hby d4_4) rfl rfl k) ?_
  show Go p e below _ (T3.setTop (mkF m 5 #[.val (.ref a1), .val (.ref a2)] [(.ref a1), (.ref b3), (.ref b3)]))
  obtain ⟨T4, X4, e4, st4⟩ := getF X3 hx hZ hown (host := "") (Or.inl (hw _ (List.mem_of_getElem? (i := 14) rfl))) Via.refl e3 F_admitted_a1_3 (g := (mkF m 5 #[.val (.ref a1), .val (.ref a2)] [(.ref a1), (.ref b3), (.ref b3)])) rfl rfl (hb hby d4_5)
  refine Go.step st4 ?_
  show Go p e below _ (T4.setTop (mkF m 8 #[.val (.ref a1), .val (.ref a2)] [(.long w_admitted_a1), (.ref b3), (.ref b3)]))
  refine Go.step (fun t k => XS.aloadN X4.here hx rfl (hb hby d4_8) rfl rfl k) ?_
  show Go p e below _ (T4.setTop (mkF m 9 #[.val (.ref a1), .val (.ref a2)] [(.ref a2), (.long w_admitted_a1), (.ref b3), (.ref b3)]))
  obtain ⟨T5, X5, e5, st5⟩ := getF X4 hx hZ hown (host := "") (Or.inl (hw _ (List.mem_of_getElem? (i := 14) rfl))) Via.refl e4 F_admitted_a2_3 (g := (mkF m 9 #[.val (.ref a1), .val (.ref a2)] [(.ref a2), (.long w_admitted_a1), (.ref b3), (.ref b3)])) rfl rfl (hb hby d4_9)
  refine Go.step st5 ?_
  show Go p e below _ (T5.setTop (mkF m 12 #[.val (.ref a1), .val (.ref a2)] [(.long w_admitted_a2), (.long w_admitted_a1), (.ref b3), (.ref b3)]))
  refine Go.step (fun t k => XS.ladd X5.here hx rfl (hb hby d4_12) rfl k) ?_
  show Go p e below _ (T5.setTop (mkF m 13 #[.val (.ref a1), .val (.ref a2)] [(.long (w_admitted_a1 + w_admitted_a2)), (.ref b3), (.ref b3)]))
  refine Go.step (fun t k => XS.aloadN X5.here hx rfl (hb hby d4_13) rfl rfl k) ?_
  show Go p e below _ (T5.setTop (mkF m 14 #[.val (.ref a1), .val (.ref a2)] [(.ref a1), (.long (w_admitted_a1 + w_admitted_a2)), (.ref b3), (.ref b3)]))
  obtain ⟨T6, X6, e6, st6⟩ := getF X5 hx hZ hown (host := "") (Or.inl (hw _ (List.mem_of_getElem? (i := 16) rfl))) Via.refl e5 F_refused_a1_3 (g := (mkF m 14 #[.val (.ref a1), .val (.ref a2)] [(.ref a1), (.long (w_admitted_a1 + w_admitted_a2)), (.ref b3), (.ref b3)])) rfl rfl (hb hby d4_14)
  refine Go.step st6 ?_
  show Go p e below _ (T6.setTop (mkF m 17 #[.val (.ref a1), .val (.ref a2)] [(.long w_refused_a1), (.long (w_admitted_a1 + w_admitted_a2)), (.ref b3), (.ref b3)]))
  refine Go.step (fun t k => XS.aloadN X6.here hx rfl (hb hby d4_17) rfl rfl k) ?_
  show Go p e below _ (T6.setTop (mkF m 18 #[.val (.ref a1), .val (.ref a2)] [(.ref a2), (.long w_refused_a1), (.long (w_admitted_a1 + w_admitted_a2)), (.ref b3), (.ref b3)]))
  obtain ⟨T7, X7, e7, st7⟩ := getF X6 hx hZ hown (host := "") (Or.inl (hw _ (List.mem_of_getElem? (i := 16) rfl))) Via.refl e6 F_refused_a2_3 (g := (mkF m 18 #[.val (.ref a1), .val (.ref a2)] [(.ref a2), (.long w_refused_a1), (.long (w_admitted_a1 + w_admitted_a2)), (.ref b3), (.ref b3)])) rfl rfl (hb hby d4_18)
  refine Go.step st7 ?_
  show Go p e below _ (T7.setTop (mkF m 21 #[.val (.ref a1), .val (.ref a2)] [(.long w_refused_a2), (.long w_refused_a1), (.long (w_admitted_a1 + w_admitted_a2)), (.ref b3), (.ref b3)]))
  refine Go.step (fun t k => XS.ladd X7.here hx rfl (hb hby d4_21) rfl k) ?_
  show Go p e below _ (T7.setTop (mkF m 22 #[.val (.ref a1), .val (.ref a2)] [(.long (w_refused_a1 + w_refused_a2)), (.long (w_admitted_a1 + w_admitted_a2)), (.ref b3), (.ref b3)]))
  obtain ⟨_, _, ⟨T8, L8, k8, n8⟩, -, X8, ⟨Lc8, hQ8, l8, y8, z8⟩, st8⟩ := X7.specialBack hx (y := (⟨"com/example/menshen/menshen/store/UsageStore$Tally", "<init>", "(JJ)V"⟩ : MethodName)) rfl hown (mvT hZ (hw _ (List.mem_of_getElem? (i := 24) rfl))) (mvT hZ (hw _ (List.mem_of_getElem? (i := 4) rfl))) (mvT hZ (hw _ (List.mem_of_getElem? (i := 5) rfl))) (by decide) (backOf (W := 1) (rm1 l Z a0 hw [] b3 (w_admitted_a1 + w_admitted_a2) (w_refused_a1 + w_refused_a2) (0 : Int64) (0 : Int64) h3 n0 Z3 F_refused_b3 A3 F_admitted_b3 g_b3) hZ (hw _ (List.mem_of_getElem? (i := 5) rfl)) (hw _ (List.mem_of_getElem? (i := 2) rfl)) (by decide) (by decide)) (g := (mkF m 22 #[.val (.ref a1), .val (.ref a2)] [(.long (w_refused_a1 + w_refused_a2)), (.long (w_admitted_a1 + w_admitted_a2)), (.ref b3), (.ref b3)])) rfl (by rw [hml]; rfl) (Steps.refl _) (a := b3) (argsL := [(.long (w_admitted_a1 + w_admitted_a2)), (.long (w_refused_a1 + w_refused_a2))]) (rest := [(.ref b3)]) (lenOf pd_1 rfl) rfl (by show 2 * 0 + _ ≤ _; exact Nat.le_of_eq rfl) (hb hby d4_22) (fun _ _ => ⟨rfl, e7, (by decide : 1 + 0 ≤ _), (by decide : 2 + 0 ≤ _)⟩)
  dsimp only [Pt.U, Pt.locs, Pt.cells, Pt.slots] at X8 l8 y8 z8 st8 hQ8
  subst l8 y8 z8
  obtain ⟨rfl, N8q, K8, Q8_0, Q8_1, Q8_2⟩ := hQ8
  have N8 := Fr.app N0 N8q
  have F_admitted_a1_8 := F_admitted_a1_3.keep K8 (ninS ne_a1_b3 nin0)
  have F_admitted_a2_8 := F_admitted_a2_3.keep K8 (ninS ne_a2_b3 nin0)
  have F_refused_a1_8 := F_refused_a1_3.keep K8 (ninS ne_a1_b3 nin0)
  have F_refused_a2_8 := F_refused_a2_3.keep K8 (ninS ne_a2_b3 nin0)
  have E_b3_8 := A3.keep K8
  have Z8 := Nat.le_trans Z3 K8.1
  have KK8 : Keep h0 T8.heap [] := KK3.trans K8 (allS (Or.inr sz_b3) all0)
  refine Go.trans st8 ?_
  show Go p e below _ (T8.setTop (mkF m 25 #[.val (.ref a1), .val (.ref a2)] [(.ref b3)]))
  refine retGR X8 hx Bd.notSynchronized Bd.returns rfl rfl (hb hby d4_25) ?_ (by decide) (by decide)
  show Q4 Z a1 a2 w_admitted_a1 w_admitted_a2 w_refused_a1 w_refused_a2 h0 n0 _ T8.heap _
  exact ⟨b3, rfl, N8, KK8, sz_b3, Q8_1, Q8_0, Q8_2⟩
theorem d5_0 : decode prog_65_method_6_code 0 = .ok (.aload_n 0, 1) := by decide +kernel
theorem d5_1 : decode prog_65_method_6_code 1 = .ok (.getfield 7, 3) := by decide +kernel
theorem d5_4 : decode prog_65_method_6_code 4 = .ok (.lreturn, 1) := by decide +kernel
theorem ef_5 (m : MethodId) (a1 : Addr) : entryFrame m #[(.ref a1)] 1 = mkF m 0 #[.val (.ref a1)] [] := by first | (simp [entryFrame, mkF, argsToLocals, Value.category]; done) | rfl
def f5 (w_admitted_a1 : Int64) : Int64 := w_admitted_a1
set_option maxRecDepth 65536 in
set_option maxHeartbeats 40000000 in
theorem rm5 (l : Launch) (Z : State) (a0 : Array Value) (hw : ∀ d ∈ tables_1, d.before a0 Z = true) (ws : List Jvm.Cond) (a1 : Addr) (w_admitted_a1 : Int64) (h0 : Heap) (n0 : Nat) (Z0 : n0 ≤ h0.size) (F_admitted_a1 : Fld Z h0 a1 "com/example/menshen/menshen/store/UsageStore$Tally" "admitted" "J" (.long w_admitted_a1)) :
    MetFree l (⟨"com/example/menshen/menshen/store/UsageStore$Tally", "admitted", "()J"⟩ : MethodName) (head1 (Jvm.Cond.code (⟨"com/example/menshen/menshen/store/UsageStore$Tally", "admitted", "()J"⟩ : MethodName) prog_65_method_6_code 1 (some .long) :: ws) ({ frames := 0, cells := 0, slots := 0, locals := 0 } : Room)) (fun a U => a = #[(.ref a1)] ∧ Z.Warmed39 U.vm ∧ U.heap = h0) (fun _ _ _ _ _ => True) (fun _ U o U' => ∃ v L, o = .returned v ∧ QP (.long (f5 w_admitted_a1)) h0 n0 v U'.heap L ∧ FrameEnd U o U' L ({ frames := 0, cells := 0, slots := 0, locals := 0 } : Room).cells ({ frames := 0, cells := 0, slots := 0, locals := 0 } : Room).slots) := by
  refine MetFree.of_bodySF (plainFor_of_name pn_1) hisR ?_
  intro p e s m args below meth c s₁ Bd hml0 hP hK
  obtain ⟨rfl, hZ, hh⟩ := hP
  have hx := Bd.exec
  have hby := Bd.bytes
  have hml : c.maxLocals = 1 := hml0
  have hown : s.vm.findClass "com/example/menshen/menshen/store/UsageStore$Tally" = some m.cls := findClass_of_methodNamed Bd.named
  have hnm := (name_of_methodNamed Bd.named Bd.method).1
  have X0 : Stand p l e ({ frames := 0, cells := 0, slots := 0, locals := 0 } : Room) s m #[(.ref a1)] below meth c s₁ [] 0 0 := Stand.of_body Bd
  have e0 : s₁.heap = h0 := by rw [← hh, Bd.state]; rfl
  have N0 := Fr.nil n0
  refine Go.done (Go.step (fun t k => castTop (ef_5 m a1) k) ?_)
  have KK0 : Keep h0 h0 [] := Keep.refl _ _
  show Go p e below _ (s₁.setTop (mkF m 0 #[.val (.ref a1)] []))
  refine Go.step (fun t k => XS.aloadN X0.here hx rfl (hb hby d5_0) rfl rfl k) ?_
  show Go p e below _ (s₁.setTop (mkF m 1 #[.val (.ref a1)] [(.ref a1)]))
  obtain ⟨T2, X2, e2, st2⟩ := getF X0 hx hZ hown (host := "") (Or.inl (hw _ (List.mem_of_getElem? (i := 14) rfl))) Via.refl e0 F_admitted_a1 (g := (mkF m 1 #[.val (.ref a1)] [(.ref a1)])) rfl rfl (hb hby d5_1)
  refine Go.step st2 ?_
  show Go p e below _ (T2.setTop (mkF m 4 #[.val (.ref a1)] [(.long w_admitted_a1)]))
  exact retGJ X2 hx Bd.notSynchronized Bd.returns (hb hby d5_4) ⟨by first | rfl | (simp only [f5]; done) | (simp [f5]; done), N0, e2⟩ (by decide) (by decide)
theorem d6_0 : decode prog_65_method_7_code 0 = .ok (.aload_n 0, 1) := by decide +kernel
theorem d6_1 : decode prog_65_method_7_code 1 = .ok (.getfield 13, 3) := by decide +kernel
theorem d6_4 : decode prog_65_method_7_code 4 = .ok (.lreturn, 1) := by decide +kernel
theorem ef_6 (m : MethodId) (a1 : Addr) : entryFrame m #[(.ref a1)] 1 = mkF m 0 #[.val (.ref a1)] [] := by first | (simp [entryFrame, mkF, argsToLocals, Value.category]; done) | rfl
def f6 (w_refused_a1 : Int64) : Int64 := w_refused_a1
set_option maxRecDepth 65536 in
set_option maxHeartbeats 40000000 in
theorem rm6 (l : Launch) (Z : State) (a0 : Array Value) (hw : ∀ d ∈ tables_1, d.before a0 Z = true) (ws : List Jvm.Cond) (a1 : Addr) (w_refused_a1 : Int64) (h0 : Heap) (n0 : Nat) (Z0 : n0 ≤ h0.size) (F_refused_a1 : Fld Z h0 a1 "com/example/menshen/menshen/store/UsageStore$Tally" "refused" "J" (.long w_refused_a1)) :
    MetFree l (⟨"com/example/menshen/menshen/store/UsageStore$Tally", "refused", "()J"⟩ : MethodName) (head1 (Jvm.Cond.code (⟨"com/example/menshen/menshen/store/UsageStore$Tally", "refused", "()J"⟩ : MethodName) prog_65_method_7_code 1 (some .long) :: ws) ({ frames := 0, cells := 0, slots := 0, locals := 0 } : Room)) (fun a U => a = #[(.ref a1)] ∧ Z.Warmed39 U.vm ∧ U.heap = h0) (fun _ _ _ _ _ => True) (fun _ U o U' => ∃ v L, o = .returned v ∧ QP (.long (f6 w_refused_a1)) h0 n0 v U'.heap L ∧ FrameEnd U o U' L ({ frames := 0, cells := 0, slots := 0, locals := 0 } : Room).cells ({ frames := 0, cells := 0, slots := 0, locals := 0 } : Room).slots) := by
  refine MetFree.of_bodySF (plainFor_of_name pn_1) hisR ?_
  intro p e s m args below meth c s₁ Bd hml0 hP hK
  obtain ⟨rfl, hZ, hh⟩ := hP
  have hx := Bd.exec
  have hby := Bd.bytes
  have hml : c.maxLocals = 1 := hml0
  have hown : s.vm.findClass "com/example/menshen/menshen/store/UsageStore$Tally" = some m.cls := findClass_of_methodNamed Bd.named
  have hnm := (name_of_methodNamed Bd.named Bd.method).1
  have X0 : Stand p l e ({ frames := 0, cells := 0, slots := 0, locals := 0 } : Room) s m #[(.ref a1)] below meth c s₁ [] 0 0 := Stand.of_body Bd
  have e0 : s₁.heap = h0 := by rw [← hh, Bd.state]; rfl
  have N0 := Fr.nil n0
  refine Go.done (Go.step (fun t k => castTop (ef_6 m a1) k) ?_)
  have KK0 : Keep h0 h0 [] := Keep.refl _ _
  show Go p e below _ (s₁.setTop (mkF m 0 #[.val (.ref a1)] []))
  refine Go.step (fun t k => XS.aloadN X0.here hx rfl (hb hby d6_0) rfl rfl k) ?_
  show Go p e below _ (s₁.setTop (mkF m 1 #[.val (.ref a1)] [(.ref a1)]))
  obtain ⟨T2, X2, e2, st2⟩ := getF X0 hx hZ hown (host := "") (Or.inl (hw _ (List.mem_of_getElem? (i := 16) rfl))) Via.refl e0 F_refused_a1 (g := (mkF m 1 #[.val (.ref a1)] [(.ref a1)])) rfl rfl (hb hby d6_1)
  refine Go.step st2 ?_
  show Go p e below _ (T2.setTop (mkF m 4 #[.val (.ref a1)] [(.long w_refused_a1)]))
  exact retGJ X2 hx Bd.notSynchronized Bd.returns (hb hby d6_4) ⟨by first | rfl | (simp only [f6]; done) | (simp [f6]; done), N0, e2⟩ (by decide) (by decide)
theorem pd_2 : parseMethodDescriptor "(Lcom/example/menshen/menshen/store/UsageStore$Tally;)Lcom/example/menshen/menshen/store/UsageStore$Tally;" = some ⟨[(.object "com/example/menshen/menshen/store/UsageStore$Tally")], some (.object "com/example/menshen/menshen/store/UsageStore$Tally")⟩ := by decide +kernel
theorem pd_3 : parseMethodDescriptor "()J" = some ⟨[], some .long⟩ := by decide +kernel
theorem ef_0 (m : MethodId) (q1 : Int64) (q2 : Int64) (q3 : Int64) (q4 : Int64) : entryFrame m #[(.long q1), (.long q2), (.long q3), (.long q4)] maxLocals = mkF m 0 #[.val (.long q1), .second, .val (.long q2), .second, .val (.long q3), .second, .val (.long q4), .second, .unset, .unset, .unset, .unset, .unset, .unset, .unset, .unset, .unset, .unset] [] := by first | (simp [entryFrame, mkF, argsToLocals, Value.category, maxLocals]; done) | rfl
theorem pn_2 : plainName "com/example/menshen/menshen/store/TallyPlusPinLaw" = true := by first | (simp [plainName, overriddenIn]; done) | decide +kernel
def f0 (q1 : Int64) (q2 : Int64) (q3 : Int64) (q4 : Int64) : Int32 := (if (if ((f5 (q1 + q3)) - q3) = q1 then (if ((f6 (q2 + q4)) - q4) = q2 then (1 : Int32) else (0 : Int32)) else (0 : Int32)) = (0 : Int32) then (0 : Int32) else (if (if (f5 (q3 + q1)) = (f5 (q1 + q3)) then (if (f6 (q4 + q2)) = (f6 (q2 + q4)) then (1 : Int32) else (0 : Int32)) else (0 : Int32)) = (0 : Int32) then (0 : Int32) else (1 : Int32)))
set_option maxRecDepth 65536 in
set_option maxHeartbeats 40000000 in
theorem rm0 (l : Launch) (Z : State) (a0 : Array Value) (hw : ∀ d ∈ tables_1, d.before a0 Z = true) (ws : List Jvm.Cond) (q1 : Int64) (q2 : Int64) (q3 : Int64) (q4 : Int64) (h0 : Heap) (n0 : Nat) (Z0 : n0 ≤ h0.size) :
    MetFree l x (head1 (Jvm.Cond.code x code maxLocals ret :: ws) room_1) (fun a U => a = #[(.long q1), (.long q2), (.long q3), (.long q4)] ∧ Z.Warmed39 U.vm ∧ U.heap = h0) (fun _ _ _ _ _ => True) (fun _ U o U' => ∃ v L, o = .returned v ∧ QL (.int (f0 q1 q2 q3 q4)) n0 v U'.heap L ∧ FrameEnd U o U' L room_1.cells room_1.slots) := by
  refine MetFree.of_bodySF (plainFor_of_name pn_2) hisR ?_
  intro p e s m args below meth c s₁ Bd hml0 hP hK
  obtain ⟨rfl, hZ, hh⟩ := hP
  have hx := Bd.exec
  have hby := Bd.bytes
  have hml : c.maxLocals = 18 := hml0
  have hown : s.vm.findClass "com/example/menshen/menshen/store/TallyPlusPinLaw" = some m.cls := findClass_of_methodNamed Bd.named
  have hnm := (name_of_methodNamed Bd.named Bd.method).1
  have X0 : Stand p l e room_1 s m #[(.long q1), (.long q2), (.long q3), (.long q4)] below meth c s₁ [] 0 0 := Stand.of_body Bd
  have e0 : s₁.heap = h0 := by rw [← hh, Bd.state]; rfl
  have N0 := Fr.nil n0
  refine Go.done (Go.step (fun t k => castTop (ef_0 m q1 q2 q3 q4) k) ?_)
  have KK0 : Keep h0 h0 [] := Keep.refl _ _
  show Go p e below _ (s₁.setTop (mkF m 0 #[.val (.long q1), .second, .val (.long q2), .second, .val (.long q3), .second, .val (.long q4), .second, .unset, .unset, .unset, .unset, .unset, .unset, .unset, .unset, .unset, .unset] []))
  obtain ⟨T5, h5, X5, e5, E5, A5, D5, -, st5⟩ := newO X0 hx hZ hown (hw _ (List.mem_of_getElem? (i := 0) rfl)) (hw _ (List.mem_of_getElem? (i := 1) rfl)) (hw _ (List.mem_of_getElem? (i := 2) rfl)) e0 (g := (mkF m 0 #[.val (.long q1), .second, .val (.long q2), .second, .val (.long q3), .second, .val (.long q4), .second, .unset, .unset, .unset, .unset, .unset, .unset, .unset, .unset, .unset, .unset] [])) rfl (hb hby at_0) (by decide) (by decide)
  obtain ⟨b5, g5⟩ : ∃ z, z = h0.size := ⟨_, rfl⟩
  rw [← g5] at A5 D5 st5
  have g_b5 : n0 ≤ b5 := Nat.le_trans Z0 (Nat.le_of_eq g5.symm)
  have sz_b5 : h0.size ≤ b5 := Nat.le_trans KK0.1 (Nat.le_of_eq g5.symm)
  refine Go.step st5 ?_
  have Z5 := Nat.le_trans Z0 E5.1
  have KK5 : Keep h0 h5 [] := KK0.ext E5
  have F_admitted_b5 : Fld Z h5 b5 "com/example/menshen/menshen/store/UsageStore$Tally" "admitted" "J" (.long (0 : Int64)) := D5 (Or.inr (hw _ (List.mem_of_getElem? (i := 15) rfl))) (ty := .long) (by decide)
  have F_refused_b5 : Fld Z h5 b5 "com/example/menshen/menshen/store/UsageStore$Tally" "refused" "J" (.long (0 : Int64)) := D5 (Or.inr (hw _ (List.mem_of_getElem? (i := 17) rfl))) (ty := .long) (by decide)
  show Go p e below _ (T5.setTop (mkF m 3 #[.val (.long q1), .second, .val (.long q2), .second, .val (.long q3), .second, .val (.long q4), .second, .unset, .unset, .unset, .unset, .unset, .unset, .unset, .unset, .unset, .unset] [(.ref b5)]))
  refine Go.step (fun t k => XS.dup X5.here hx rfl (hb hby at_3) rfl rfl k) ?_
  show Go p e below _ (T5.setTop (mkF m 4 #[.val (.long q1), .second, .val (.long q2), .second, .val (.long q3), .second, .val (.long q4), .second, .unset, .unset, .unset, .unset, .unset, .unset, .unset, .unset, .unset, .unset] [(.ref b5), (.ref b5)]))
  refine Go.step (fun t k => XS.lloadN X5.here hx rfl (hb hby at_4) rfl k) ?_
  show Go p e below _ (T5.setTop (mkF m 5 #[.val (.long q1), .second, .val (.long q2), .second, .val (.long q3), .second, .val (.long q4), .second, .unset, .unset, .unset, .unset, .unset, .unset, .unset, .unset, .unset, .unset] [(.long q1), (.ref b5), (.ref b5)]))
  refine Go.step (fun t k => XS.lloadN X5.here hx rfl (hb hby at_5) rfl k) ?_
  show Go p e below _ (T5.setTop (mkF m 6 #[.val (.long q1), .second, .val (.long q2), .second, .val (.long q3), .second, .val (.long q4), .second, .unset, .unset, .unset, .unset, .unset, .unset, .unset, .unset, .unset, .unset] [(.long q2), (.long q1), (.ref b5), (.ref b5)]))
  obtain ⟨_, _, ⟨T6, L6, k6, n6⟩, -, X6, ⟨Lc6, hQ6, l6, y6, z6⟩, st6⟩ := X5.specialBack hx (y := (⟨"com/example/menshen/menshen/store/UsageStore$Tally", "<init>", "(JJ)V"⟩ : MethodName)) rfl hown (mvT hZ (hw _ (List.mem_of_getElem? (i := 3) rfl))) (mvT hZ (hw _ (List.mem_of_getElem? (i := 4) rfl))) (mvT hZ (hw _ (List.mem_of_getElem? (i := 5) rfl))) (by decide) (backOf (W := 1) (rm1 l Z a0 hw [] b5 q1 q2 (0 : Int64) (0 : Int64) h5 n0 Z5 F_refused_b5 A5 F_admitted_b5 g_b5) hZ (hw _ (List.mem_of_getElem? (i := 5) rfl)) (hw _ (List.mem_of_getElem? (i := 2) rfl)) (by decide) (by decide)) (g := (mkF m 6 #[.val (.long q1), .second, .val (.long q2), .second, .val (.long q3), .second, .val (.long q4), .second, .unset, .unset, .unset, .unset, .unset, .unset, .unset, .unset, .unset, .unset] [(.long q2), (.long q1), (.ref b5), (.ref b5)])) rfl (by rw [hml]; rfl) (Steps.refl _) (a := b5) (argsL := [(.long q1), (.long q2)]) (rest := [(.ref b5)]) (lenOf pd_1 rfl) rfl (by show 2 * 0 + _ ≤ _; exact Nat.le_of_eq rfl) (hb hby at_6) (fun _ _ => ⟨rfl, e5, (by decide : 1 + 0 ≤ _), (by decide : 2 + 0 ≤ _)⟩)
  dsimp only [Pt.U, Pt.locs, Pt.cells, Pt.slots] at X6 l6 y6 z6 st6 hQ6
  subst l6 y6 z6
  obtain ⟨rfl, N6q, K6, Q6_0, Q6_1, Q6_2⟩ := hQ6
  have N6 := Fr.app N0 N6q
  have E_b5_6 := A5.keep K6
  have Z6 := Nat.le_trans Z5 K6.1
  have KK6 : Keep h0 T6.heap [] := KK5.trans K6 (allS (Or.inr sz_b5) all0)
  refine Go.trans st6 ?_
  show Go p e below _ (T6.setTop (mkF m 9 #[.val (.long q1), .second, .val (.long q2), .second, .val (.long q3), .second, .val (.long q4), .second, .unset, .unset, .unset, .unset, .unset, .unset, .unset, .unset, .unset, .unset] [(.ref b5)]))
  refine Go.step (fun t k => XS.astore X6.here hx rfl (hb hby at_9) rfl rfl (l' := #[.val (.long q1), .second, .val (.long q2), .second, .val (.long q3), .second, .val (.long q4), .second, .val (.ref b5), .unset, .unset, .unset, .unset, .unset, .unset, .unset, .unset, .unset]) rfl k) ?_
  show Go p e below _ (T6.setTop (mkF m 11 #[.val (.long q1), .second, .val (.long q2), .second, .val (.long q3), .second, .val (.long q4), .second, .val (.ref b5), .unset, .unset, .unset, .unset, .unset, .unset, .unset, .unset, .unset] []))
  obtain ⟨T7, h7, X7, e7, E7, A7, D7, -, st7⟩ := newO X6 hx hZ hown (hw _ (List.mem_of_getElem? (i := 0) rfl)) (hw _ (List.mem_of_getElem? (i := 1) rfl)) (hw _ (List.mem_of_getElem? (i := 2) rfl)) rfl (g := (mkF m 11 #[.val (.long q1), .second, .val (.long q2), .second, .val (.long q3), .second, .val (.long q4), .second, .val (.ref b5), .unset, .unset, .unset, .unset, .unset, .unset, .unset, .unset, .unset] [])) rfl (hb hby at_11) (by decide) (by decide)
  obtain ⟨b7, g7⟩ : ∃ z, z = T6.heap.size := ⟨_, rfl⟩
  rw [← g7] at A7 D7 st7
  have g_b7 : n0 ≤ b7 := Nat.le_trans Z6 (Nat.le_of_eq g7.symm)
  have sz_b7 : h0.size ≤ b7 := Nat.le_trans KK6.1 (Nat.le_of_eq g7.symm)
  have ne_b5_b7 : b5 ≠ b7 := Nat.ne_of_lt (Nat.lt_of_lt_of_le Q6_1.lt (Nat.le_of_eq g7.symm))
  refine Go.step st7 ?_
  have E_b5_7 := Q6_1.ext E7
  have F_refused_b5_7 := Q6_0.ext E7
  have F_admitted_b5_7 := Q6_2.ext E7
  have Z7 := Nat.le_trans Z6 E7.1
  have KK7 : Keep h0 h7 [] := KK6.ext E7
  have F_admitted_b7 : Fld Z h7 b7 "com/example/menshen/menshen/store/UsageStore$Tally" "admitted" "J" (.long (0 : Int64)) := D7 (Or.inr (hw _ (List.mem_of_getElem? (i := 15) rfl))) (ty := .long) (by decide)
  have F_refused_b7 : Fld Z h7 b7 "com/example/menshen/menshen/store/UsageStore$Tally" "refused" "J" (.long (0 : Int64)) := D7 (Or.inr (hw _ (List.mem_of_getElem? (i := 17) rfl))) (ty := .long) (by decide)
  show Go p e below _ (T7.setTop (mkF m 14 #[.val (.long q1), .second, .val (.long q2), .second, .val (.long q3), .second, .val (.long q4), .second, .val (.ref b5), .unset, .unset, .unset, .unset, .unset, .unset, .unset, .unset, .unset] [(.ref b7)]))
  refine Go.step (fun t k => XS.dup X7.here hx rfl (hb hby at_14) rfl rfl k) ?_
  show Go p e below _ (T7.setTop (mkF m 15 #[.val (.long q1), .second, .val (.long q2), .second, .val (.long q3), .second, .val (.long q4), .second, .val (.ref b5), .unset, .unset, .unset, .unset, .unset, .unset, .unset, .unset, .unset] [(.ref b7), (.ref b7)]))
  refine Go.step (fun t k => XS.lload X7.here hx rfl (hb hby at_15) rfl k) ?_
  show Go p e below _ (T7.setTop (mkF m 17 #[.val (.long q1), .second, .val (.long q2), .second, .val (.long q3), .second, .val (.long q4), .second, .val (.ref b5), .unset, .unset, .unset, .unset, .unset, .unset, .unset, .unset, .unset] [(.long q3), (.ref b7), (.ref b7)]))
  refine Go.step (fun t k => XS.lload X7.here hx rfl (hb hby at_17) rfl k) ?_
  show Go p e below _ (T7.setTop (mkF m 19 #[.val (.long q1), .second, .val (.long q2), .second, .val (.long q3), .second, .val (.long q4), .second, .val (.ref b5), .unset, .unset, .unset, .unset, .unset, .unset, .unset, .unset, .unset] [(.long q4), (.long q3), (.ref b7), (.ref b7)]))
  obtain ⟨_, _, ⟨T8, L8, k8, n8⟩, -, X8, ⟨Lc8, hQ8, l8, y8, z8⟩, st8⟩ := X7.specialBack hx (y := (⟨"com/example/menshen/menshen/store/UsageStore$Tally", "<init>", "(JJ)V"⟩ : MethodName)) rfl hown (mvT hZ (hw _ (List.mem_of_getElem? (i := 3) rfl))) (mvT hZ (hw _ (List.mem_of_getElem? (i := 4) rfl))) (mvT hZ (hw _ (List.mem_of_getElem? (i := 5) rfl))) (by decide) (backOf (W := 1) (rm1 l Z a0 hw [] b7 q3 q4 (0 : Int64) (0 : Int64) h7 n0 Z7 F_refused_b7 A7 F_admitted_b7 g_b7) hZ (hw _ (List.mem_of_getElem? (i := 5) rfl)) (hw _ (List.mem_of_getElem? (i := 2) rfl)) (by decide) (by decide)) (g := (mkF m 19 #[.val (.long q1), .second, .val (.long q2), .second, .val (.long q3), .second, .val (.long q4), .second, .val (.ref b5), .unset, .unset, .unset, .unset, .unset, .unset, .unset, .unset, .unset] [(.long q4), (.long q3), (.ref b7), (.ref b7)])) rfl (by rw [hml]; rfl) (Steps.refl _) (a := b7) (argsL := [(.long q3), (.long q4)]) (rest := [(.ref b7)]) (lenOf pd_1 rfl) rfl (by show 2 * 0 + _ ≤ _; exact Nat.le_of_eq rfl) (hb hby at_19) (fun _ _ => ⟨rfl, e7, (by decide : 2 + 0 ≤ _), (by decide : 4 + 0 ≤ _)⟩)
  dsimp only [Pt.U, Pt.locs, Pt.cells, Pt.slots] at X8 l8 y8 z8 st8 hQ8
  subst l8 y8 z8
  obtain ⟨rfl, N8q, K8, Q8_0, Q8_1, Q8_2⟩ := hQ8
  have N8 := Fr.app N6 N8q
  have E_b5_8 := E_b5_7.keep K8
  have F_refused_b5_8 := F_refused_b5_7.keep K8 (ninS ne_b5_b7 nin0)
  have F_admitted_b5_8 := F_admitted_b5_7.keep K8 (ninS ne_b5_b7 nin0)
  have E_b7_8 := A7.keep K8
  have Z8 := Nat.le_trans Z7 K8.1
  have KK8 : Keep h0 T8.heap [] := KK7.trans K8 (allS (Or.inr sz_b7) all0)
  refine Go.trans st8 ?_
  show Go p e below _ (T8.setTop (mkF m 22 #[.val (.long q1), .second, .val (.long q2), .second, .val (.long q3), .second, .val (.long q4), .second, .val (.ref b5), .unset, .unset, .unset, .unset, .unset, .unset, .unset, .unset, .unset] [(.ref b7)]))
  refine Go.step (fun t k => XS.astore X8.here hx rfl (hb hby at_22) rfl rfl (l' := #[.val (.long q1), .second, .val (.long q2), .second, .val (.long q3), .second, .val (.long q4), .second, .val (.ref b5), .val (.ref b7), .unset, .unset, .unset, .unset, .unset, .unset, .unset, .unset]) rfl k) ?_
  show Go p e below _ (T8.setTop (mkF m 24 #[.val (.long q1), .second, .val (.long q2), .second, .val (.long q3), .second, .val (.long q4), .second, .val (.ref b5), .val (.ref b7), .unset, .unset, .unset, .unset, .unset, .unset, .unset, .unset] []))
  refine Go.step (fun t k => XS.aload X8.here hx rfl (hb hby at_24) rfl rfl k) ?_
  show Go p e below _ (T8.setTop (mkF m 26 #[.val (.long q1), .second, .val (.long q2), .second, .val (.long q3), .second, .val (.long q4), .second, .val (.ref b5), .val (.ref b7), .unset, .unset, .unset, .unset, .unset, .unset, .unset, .unset] [(.ref b5)]))
  refine Go.step (fun t k => XS.aload X8.here hx rfl (hb hby at_26) rfl rfl k) ?_
  show Go p e below _ (T8.setTop (mkF m 28 #[.val (.long q1), .second, .val (.long q2), .second, .val (.long q3), .second, .val (.long q4), .second, .val (.ref b5), .val (.ref b7), .unset, .unset, .unset, .unset, .unset, .unset, .unset, .unset] [(.ref b7), (.ref b5)]))
  obtain ⟨cq9, kq9, q9a, q9b, q9c⟩ := isOf hZ rfl E_b5_8
  obtain ⟨_, _, ⟨T9, L9, k9, n9⟩, -, X9, ⟨Lc9, hQ9, l9, y9, z9⟩, st9⟩ := X8.virtualBack hx (y := (⟨"com/example/menshen/menshen/store/UsageStore$Tally", "plus", "(Lcom/example/menshen/menshen/store/UsageStore$Tally;)Lcom/example/menshen/menshen/store/UsageStore$Tally;"⟩ : MethodName)) (z := (⟨"com/example/menshen/menshen/store/UsageStore$Tally", "plus", "(Lcom/example/menshen/menshen/store/UsageStore$Tally;)Lcom/example/menshen/menshen/store/UsageStore$Tally;"⟩ : MethodName)) hown (mvT hZ (hw _ (List.mem_of_getElem? (i := 18) rfl))) (mvT hZ (hw _ (List.mem_of_getElem? (i := 19) rfl))) (notFace_of_selects (args := #[]) (mvT hZ (hw _ (List.mem_of_getElem? (i := 21) rfl)))) (mvT hZ (hw _ (List.mem_of_getElem? (i := 21) rfl))) (mvT hZ (hw _ (List.mem_of_getElem? (i := 20) rfl))) (by decide) (backOf (W := 0) (rm4 l Z a0 hw [] b5 b7 q1 q3 q2 q4 T8.heap n0 Z8 F_admitted_b5_8 Q8_2 F_refused_b5_8 Q8_0) hZ (hw _ (List.mem_of_getElem? (i := 22) rfl)) (hw _ (List.mem_of_getElem? (i := 2) rfl)) (by decide) (by decide)) q9a q9c (g := (mkF m 28 #[.val (.long q1), .second, .val (.long q2), .second, .val (.long q3), .second, .val (.long q4), .second, .val (.ref b5), .val (.ref b7), .unset, .unset, .unset, .unset, .unset, .unset, .unset, .unset] [(.ref b7), (.ref b5)])) rfl (by rw [hml]; rfl) (Steps.refl _) (argsL := [(.ref b7)]) (rest := []) (lenOf pd_2 rfl) rfl (by show 2 * 0 + _ ≤ _; exact Nat.le_of_eq rfl) (hb hby at_28) (fun _ _ => ⟨rfl, rfl, (by decide : 2 + 1 ≤ _), (by decide : 4 + 2 ≤ _)⟩)
  dsimp only [Pt.U, Pt.locs, Pt.cells, Pt.slots] at X9 l9 y9 z9 st9 hQ9
  subst l9 y9 z9
  obtain ⟨b9_0, rfl, N9q, K9, sz9_0, Q9_0, Q9_1, Q9_2⟩ := hQ9
  have N9 := Fr.app N8 N9q
  have g_b9_0 : n0 ≤ b9_0 := Nat.le_trans Z8 sz9_0
  have sz_b9_0 : h0.size ≤ b9_0 := Nat.le_trans KK8.1 sz9_0
  have ne_b5_b9_0 : b5 ≠ b9_0 := Nat.ne_of_lt (Nat.lt_of_lt_of_le E_b5_8.lt sz9_0)
  have ne_b7_b9_0 : b7 ≠ b9_0 := Nat.ne_of_lt (Nat.lt_of_lt_of_le Q8_1.lt sz9_0)
  have E_b5_9 := E_b5_8.keep K9
  have F_refused_b5_9 := F_refused_b5_8.keep K9 nin0
  have F_admitted_b5_9 := F_admitted_b5_8.keep K9 nin0
  have E_b7_9 := Q8_1.keep K9
  have F_refused_b7_9 := Q8_0.keep K9 nin0
  have F_admitted_b7_9 := Q8_2.keep K9 nin0
  have Z9 := Nat.le_trans Z8 K9.1
  have KK9 : Keep h0 T9.heap [] := KK8.trans K9 all0
  refine Go.trans st9 ?_
  show Go p e below _ (T9.setTop (mkF m 31 #[.val (.long q1), .second, .val (.long q2), .second, .val (.long q3), .second, .val (.long q4), .second, .val (.ref b5), .val (.ref b7), .unset, .unset, .unset, .unset, .unset, .unset, .unset, .unset] [(.ref b9_0)]))
  refine Go.step (fun t k => XS.astore X9.here hx rfl (hb hby at_31) rfl rfl (l' := #[.val (.long q1), .second, .val (.long q2), .second, .val (.long q3), .second, .val (.long q4), .second, .val (.ref b5), .val (.ref b7), .val (.ref b9_0), .unset, .unset, .unset, .unset, .unset, .unset, .unset]) rfl k) ?_
  show Go p e below _ (T9.setTop (mkF m 33 #[.val (.long q1), .second, .val (.long q2), .second, .val (.long q3), .second, .val (.long q4), .second, .val (.ref b5), .val (.ref b7), .val (.ref b9_0), .unset, .unset, .unset, .unset, .unset, .unset, .unset] []))
  refine Go.step (fun t k => XS.aload X9.here hx rfl (hb hby at_33) rfl rfl k) ?_
  show Go p e below _ (T9.setTop (mkF m 35 #[.val (.long q1), .second, .val (.long q2), .second, .val (.long q3), .second, .val (.long q4), .second, .val (.ref b5), .val (.ref b7), .val (.ref b9_0), .unset, .unset, .unset, .unset, .unset, .unset, .unset] [(.ref b7)]))
  refine Go.step (fun t k => XS.aload X9.here hx rfl (hb hby at_35) rfl rfl k) ?_
  show Go p e below _ (T9.setTop (mkF m 37 #[.val (.long q1), .second, .val (.long q2), .second, .val (.long q3), .second, .val (.long q4), .second, .val (.ref b5), .val (.ref b7), .val (.ref b9_0), .unset, .unset, .unset, .unset, .unset, .unset, .unset] [(.ref b5), (.ref b7)]))
  obtain ⟨cq10, kq10, q10a, q10b, q10c⟩ := isOf hZ rfl E_b7_9
  obtain ⟨_, _, ⟨T10, L10, k10, n10⟩, -, X10, ⟨Lc10, hQ10, l10, y10, z10⟩, st10⟩ := X9.virtualBack hx (y := (⟨"com/example/menshen/menshen/store/UsageStore$Tally", "plus", "(Lcom/example/menshen/menshen/store/UsageStore$Tally;)Lcom/example/menshen/menshen/store/UsageStore$Tally;"⟩ : MethodName)) (z := (⟨"com/example/menshen/menshen/store/UsageStore$Tally", "plus", "(Lcom/example/menshen/menshen/store/UsageStore$Tally;)Lcom/example/menshen/menshen/store/UsageStore$Tally;"⟩ : MethodName)) hown (mvT hZ (hw _ (List.mem_of_getElem? (i := 18) rfl))) (mvT hZ (hw _ (List.mem_of_getElem? (i := 19) rfl))) (notFace_of_selects (args := #[]) (mvT hZ (hw _ (List.mem_of_getElem? (i := 21) rfl)))) (mvT hZ (hw _ (List.mem_of_getElem? (i := 21) rfl))) (mvT hZ (hw _ (List.mem_of_getElem? (i := 20) rfl))) (by decide) (backOf (W := 0) (rm4 l Z a0 hw [] b7 b5 q3 q1 q4 q2 T9.heap n0 Z9 F_admitted_b7_9 F_admitted_b5_9 F_refused_b7_9 F_refused_b5_9) hZ (hw _ (List.mem_of_getElem? (i := 22) rfl)) (hw _ (List.mem_of_getElem? (i := 2) rfl)) (by decide) (by decide)) q10a q10c (g := (mkF m 37 #[.val (.long q1), .second, .val (.long q2), .second, .val (.long q3), .second, .val (.long q4), .second, .val (.ref b5), .val (.ref b7), .val (.ref b9_0), .unset, .unset, .unset, .unset, .unset, .unset, .unset] [(.ref b5), (.ref b7)])) rfl (by rw [hml]; rfl) (Steps.refl _) (argsL := [(.ref b5)]) (rest := []) (lenOf pd_2 rfl) rfl (by show 2 * 0 + _ ≤ _; exact Nat.le_of_eq rfl) (hb hby at_37) (fun _ _ => ⟨rfl, rfl, (by decide : 3 + 1 ≤ _), (by decide : 6 + 2 ≤ _)⟩)
  dsimp only [Pt.U, Pt.locs, Pt.cells, Pt.slots] at X10 l10 y10 z10 st10 hQ10
  subst l10 y10 z10
  obtain ⟨b10_0, rfl, N10q, K10, sz10_0, Q10_0, Q10_1, Q10_2⟩ := hQ10
  have N10 := Fr.app N9 N10q
  have g_b10_0 : n0 ≤ b10_0 := Nat.le_trans Z9 sz10_0
  have sz_b10_0 : h0.size ≤ b10_0 := Nat.le_trans KK9.1 sz10_0
  have ne_b5_b10_0 : b5 ≠ b10_0 := Nat.ne_of_lt (Nat.lt_of_lt_of_le E_b5_9.lt sz10_0)
  have ne_b7_b10_0 : b7 ≠ b10_0 := Nat.ne_of_lt (Nat.lt_of_lt_of_le E_b7_9.lt sz10_0)
  have ne_b9_0_b10_0 : b9_0 ≠ b10_0 := Nat.ne_of_lt (Nat.lt_of_lt_of_le Q9_0.lt sz10_0)
  have E_b5_10 := E_b5_9.keep K10
  have F_refused_b5_10 := F_refused_b5_9.keep K10 nin0
  have F_admitted_b5_10 := F_admitted_b5_9.keep K10 nin0
  have E_b7_10 := E_b7_9.keep K10
  have F_refused_b7_10 := F_refused_b7_9.keep K10 nin0
  have F_admitted_b7_10 := F_admitted_b7_9.keep K10 nin0
  have E_b9_0_10 := Q9_0.keep K10
  have F_refused_b9_0_10 := Q9_1.keep K10 nin0
  have F_admitted_b9_0_10 := Q9_2.keep K10 nin0
  have Z10 := Nat.le_trans Z9 K10.1
  have KK10 : Keep h0 T10.heap [] := KK9.trans K10 all0
  refine Go.trans st10 ?_
  show Go p e below _ (T10.setTop (mkF m 40 #[.val (.long q1), .second, .val (.long q2), .second, .val (.long q3), .second, .val (.long q4), .second, .val (.ref b5), .val (.ref b7), .val (.ref b9_0), .unset, .unset, .unset, .unset, .unset, .unset, .unset] [(.ref b10_0)]))
  refine Go.step (fun t k => XS.astore X10.here hx rfl (hb hby at_40) rfl rfl (l' := #[.val (.long q1), .second, .val (.long q2), .second, .val (.long q3), .second, .val (.long q4), .second, .val (.ref b5), .val (.ref b7), .val (.ref b9_0), .val (.ref b10_0), .unset, .unset, .unset, .unset, .unset, .unset]) rfl k) ?_
  show Go p e below _ (T10.setTop (mkF m 42 #[.val (.long q1), .second, .val (.long q2), .second, .val (.long q3), .second, .val (.long q4), .second, .val (.ref b5), .val (.ref b7), .val (.ref b9_0), .val (.ref b10_0), .unset, .unset, .unset, .unset, .unset, .unset] []))
  refine Go.step (fun t k => XS.aload X10.here hx rfl (hb hby at_42) rfl rfl k) ?_
  show Go p e below _ (T10.setTop (mkF m 44 #[.val (.long q1), .second, .val (.long q2), .second, .val (.long q3), .second, .val (.long q4), .second, .val (.ref b5), .val (.ref b7), .val (.ref b9_0), .val (.ref b10_0), .unset, .unset, .unset, .unset, .unset, .unset] [(.ref b9_0)]))
  obtain ⟨cq11, kq11, q11a, q11b, q11c⟩ := isOf hZ rfl E_b9_0_10
  obtain ⟨_, _, ⟨T11, L11, k11, n11⟩, -, X11, ⟨Lc11, hQ11, l11, y11, z11⟩, st11⟩ := X10.virtualBack hx (y := (⟨"com/example/menshen/menshen/store/UsageStore$Tally", "admitted", "()J"⟩ : MethodName)) (z := (⟨"com/example/menshen/menshen/store/UsageStore$Tally", "admitted", "()J"⟩ : MethodName)) hown (mvT hZ (hw _ (List.mem_of_getElem? (i := 25) rfl))) (mvT hZ (hw _ (List.mem_of_getElem? (i := 26) rfl))) (notFace_of_selects (args := #[]) (mvT hZ (hw _ (List.mem_of_getElem? (i := 28) rfl)))) (mvT hZ (hw _ (List.mem_of_getElem? (i := 28) rfl))) (mvT hZ (hw _ (List.mem_of_getElem? (i := 27) rfl))) (by decide) (backOf (W := 0) (rm5 l Z a0 hw [] b9_0 (q1 + q3) T10.heap n0 Z10 F_admitted_b9_0_10) hZ (hw _ (List.mem_of_getElem? (i := 29) rfl)) (hw _ (List.mem_of_getElem? (i := 2) rfl)) (by decide) (by decide)) q11a q11c (g := (mkF m 44 #[.val (.long q1), .second, .val (.long q2), .second, .val (.long q3), .second, .val (.long q4), .second, .val (.ref b5), .val (.ref b7), .val (.ref b9_0), .val (.ref b10_0), .unset, .unset, .unset, .unset, .unset, .unset] [(.ref b9_0)])) rfl (by rw [hml]; rfl) (Steps.refl _) (argsL := []) (rest := []) (lenOf pd_3 rfl) rfl (by show 2 * 0 + _ ≤ _; exact Nat.le_of_eq rfl) (hb hby at_44) (fun _ _ => ⟨rfl, rfl, (by decide : 4 + 0 ≤ _), (by decide : 8 + 0 ≤ _)⟩)
  dsimp only [Pt.U, Pt.locs, Pt.cells, Pt.slots] at X11 l11 y11 z11 st11 hQ11
  subst l11 y11 z11
  obtain ⟨rfl, N11q, e11⟩ := hQ11
  have N11 := Fr.app N10 N11q
  refine Go.trans st11 ?_
  show Go p e below _ (T11.setTop (mkF m 47 #[.val (.long q1), .second, .val (.long q2), .second, .val (.long q3), .second, .val (.long q4), .second, .val (.ref b5), .val (.ref b7), .val (.ref b9_0), .val (.ref b10_0), .unset, .unset, .unset, .unset, .unset, .unset] [(.long (f5 (q1 + q3)))]))
  refine Go.step (fun t k => XS.lstore X11.here hx rfl (hb hby at_47) rfl (l' := #[.val (.long q1), .second, .val (.long q2), .second, .val (.long q3), .second, .val (.long q4), .second, .val (.ref b5), .val (.ref b7), .val (.ref b9_0), .val (.ref b10_0), .val (.long (f5 (q1 + q3))), .second, .unset, .unset, .unset, .unset]) rfl k) ?_
  show Go p e below _ (T11.setTop (mkF m 49 #[.val (.long q1), .second, .val (.long q2), .second, .val (.long q3), .second, .val (.long q4), .second, .val (.ref b5), .val (.ref b7), .val (.ref b9_0), .val (.ref b10_0), .val (.long (f5 (q1 + q3))), .second, .unset, .unset, .unset, .unset] []))
  refine Go.step (fun t k => XS.aload X11.here hx rfl (hb hby at_49) rfl rfl k) ?_
  show Go p e below _ (T11.setTop (mkF m 51 #[.val (.long q1), .second, .val (.long q2), .second, .val (.long q3), .second, .val (.long q4), .second, .val (.ref b5), .val (.ref b7), .val (.ref b9_0), .val (.ref b10_0), .val (.long (f5 (q1 + q3))), .second, .unset, .unset, .unset, .unset] [(.ref b9_0)]))
  obtain ⟨cq12, kq12, q12a, q12b, q12c⟩ := isOf hZ e11 E_b9_0_10
  obtain ⟨_, _, ⟨T12, L12, k12, n12⟩, -, X12, ⟨Lc12, hQ12, l12, y12, z12⟩, st12⟩ := X11.virtualBack hx (y := (⟨"com/example/menshen/menshen/store/UsageStore$Tally", "refused", "()J"⟩ : MethodName)) (z := (⟨"com/example/menshen/menshen/store/UsageStore$Tally", "refused", "()J"⟩ : MethodName)) hown (mvT hZ (hw _ (List.mem_of_getElem? (i := 30) rfl))) (mvT hZ (hw _ (List.mem_of_getElem? (i := 31) rfl))) (notFace_of_selects (args := #[]) (mvT hZ (hw _ (List.mem_of_getElem? (i := 33) rfl)))) (mvT hZ (hw _ (List.mem_of_getElem? (i := 33) rfl))) (mvT hZ (hw _ (List.mem_of_getElem? (i := 32) rfl))) (by decide) (backOf (W := 0) (rm6 l Z a0 hw [] b9_0 (q2 + q4) T10.heap n0 Z10 F_refused_b9_0_10) hZ (hw _ (List.mem_of_getElem? (i := 34) rfl)) (hw _ (List.mem_of_getElem? (i := 2) rfl)) (by decide) (by decide)) q12a q12c (g := (mkF m 51 #[.val (.long q1), .second, .val (.long q2), .second, .val (.long q3), .second, .val (.long q4), .second, .val (.ref b5), .val (.ref b7), .val (.ref b9_0), .val (.ref b10_0), .val (.long (f5 (q1 + q3))), .second, .unset, .unset, .unset, .unset] [(.ref b9_0)])) rfl (by rw [hml]; rfl) (Steps.refl _) (argsL := []) (rest := []) (lenOf pd_3 rfl) rfl (by show 2 * 0 + _ ≤ _; exact Nat.le_of_eq rfl) (hb hby at_51) (fun _ _ => ⟨rfl, e11, (by decide : 4 + 0 ≤ _), (by decide : 8 + 0 ≤ _)⟩)
  dsimp only [Pt.U, Pt.locs, Pt.cells, Pt.slots] at X12 l12 y12 z12 st12 hQ12
  subst l12 y12 z12
  obtain ⟨rfl, N12q, e12⟩ := hQ12
  have N12 := Fr.app N11 N12q
  refine Go.trans st12 ?_
  show Go p e below _ (T12.setTop (mkF m 54 #[.val (.long q1), .second, .val (.long q2), .second, .val (.long q3), .second, .val (.long q4), .second, .val (.ref b5), .val (.ref b7), .val (.ref b9_0), .val (.ref b10_0), .val (.long (f5 (q1 + q3))), .second, .unset, .unset, .unset, .unset] [(.long (f6 (q2 + q4)))]))
  refine Go.step (fun t k => XS.lstore X12.here hx rfl (hb hby at_54) rfl (l' := #[.val (.long q1), .second, .val (.long q2), .second, .val (.long q3), .second, .val (.long q4), .second, .val (.ref b5), .val (.ref b7), .val (.ref b9_0), .val (.ref b10_0), .val (.long (f5 (q1 + q3))), .second, .val (.long (f6 (q2 + q4))), .second, .unset, .unset]) rfl k) ?_
  show Go p e below _ (T12.setTop (mkF m 56 #[.val (.long q1), .second, .val (.long q2), .second, .val (.long q3), .second, .val (.long q4), .second, .val (.ref b5), .val (.ref b7), .val (.ref b9_0), .val (.ref b10_0), .val (.long (f5 (q1 + q3))), .second, .val (.long (f6 (q2 + q4))), .second, .unset, .unset] []))
  refine Go.step (fun t k => XS.lload X12.here hx rfl (hb hby at_56) rfl k) ?_
  show Go p e below _ (T12.setTop (mkF m 58 #[.val (.long q1), .second, .val (.long q2), .second, .val (.long q3), .second, .val (.long q4), .second, .val (.ref b5), .val (.ref b7), .val (.ref b9_0), .val (.ref b10_0), .val (.long (f5 (q1 + q3))), .second, .val (.long (f6 (q2 + q4))), .second, .unset, .unset] [(.long (f5 (q1 + q3)))]))
  refine Go.step (fun t k => XS.lload X12.here hx rfl (hb hby at_58) rfl k) ?_
  show Go p e below _ (T12.setTop (mkF m 60 #[.val (.long q1), .second, .val (.long q2), .second, .val (.long q3), .second, .val (.long q4), .second, .val (.ref b5), .val (.ref b7), .val (.ref b9_0), .val (.ref b10_0), .val (.long (f5 (q1 + q3))), .second, .val (.long (f6 (q2 + q4))), .second, .unset, .unset] [(.long q3), (.long (f5 (q1 + q3)))]))
  refine Go.step (fun t k => XS.lsub X12.here hx rfl (hb hby at_60) rfl k) ?_
  show Go p e below _ (T12.setTop (mkF m 61 #[.val (.long q1), .second, .val (.long q2), .second, .val (.long q3), .second, .val (.long q4), .second, .val (.ref b5), .val (.ref b7), .val (.ref b9_0), .val (.ref b10_0), .val (.long (f5 (q1 + q3))), .second, .val (.long (f6 (q2 + q4))), .second, .unset, .unset] [(.long ((f5 (q1 + q3)) - q3))]))
  refine Go.step (fun t k => XS.lloadN X12.here hx rfl (hb hby at_61) rfl k) ?_
  show Go p e below _ (T12.setTop (mkF m 62 #[.val (.long q1), .second, .val (.long q2), .second, .val (.long q3), .second, .val (.long q4), .second, .val (.ref b5), .val (.ref b7), .val (.ref b9_0), .val (.ref b10_0), .val (.long (f5 (q1 + q3))), .second, .val (.long (f6 (q2 + q4))), .second, .unset, .unset] [(.long q1), (.long ((f5 (q1 + q3)) - q3))]))
  refine Go.step (fun t k => XS.lcmp X12.here hx rfl (hb hby at_62) rfl k) ?_
  show Go p e below _ (T12.setTop (mkF m 63 #[.val (.long q1), .second, .val (.long q2), .second, .val (.long q3), .second, .val (.long q4), .second, .val (.ref b5), .val (.ref b7), .val (.ref b9_0), .val (.ref b10_0), .val (.long (f5 (q1 + q3))), .second, .val (.long (f6 (q2 + q4))), .second, .unset, .unset] [(.int (lcmpW ((f5 (q1 + q3)) - q3) q1))]))
  obtain ⟨v15, hv15⟩ : ∃ z : Int32, z = (if ((f5 (q1 + q3)) - q3) = q1 then (if ((f6 (q2 + q4)) - q4) = q2 then (1 : Int32) else (0 : Int32)) else (0 : Int32)) := ⟨_, rfl⟩
  have J63 : Go p e below (AtF p l e room_1 s m #[(.long q1), (.long q2), (.long q3), (.long q4)] below meth c n0 4 8 T10.heap (mkF m 81 #[.val (.long q1), .second, .val (.long q2), .second, .val (.long q3), .second, .val (.long q4), .second, .val (.ref b5), .val (.ref b7), .val (.ref b9_0), .val (.ref b10_0), .val (.long (f5 (q1 + q3))), .second, .val (.long (f6 (q2 + q4))), .second, .unset, .unset] [(.int v15)])) (T12.setTop (mkF m 63 #[.val (.long q1), .second, .val (.long q2), .second, .val (.long q3), .second, .val (.long q4), .second, .val (.ref b5), .val (.ref b7), .val (.ref b9_0), .val (.ref b10_0), .val (.long (f5 (q1 + q3))), .second, .val (.long (f6 (q2 + q4))), .second, .unset, .unset] [(.int (lcmpW ((f5 (q1 + q3)) - q3) q1))])) := by
    by_cases hc13 : ((f5 (q1 + q3)) - q3) = q1
    · refine Go.step (fun t k => XS.ifNo X12.here hx rfl (hb hby at_63) rfl ((if0 _ _).trans (teq ((lw_eq _ _).mpr hc13)).2) k) ?_
      show Go p e below _ (T12.setTop (mkF m 66 #[.val (.long q1), .second, .val (.long q2), .second, .val (.long q3), .second, .val (.long q4), .second, .val (.ref b5), .val (.ref b7), .val (.ref b9_0), .val (.ref b10_0), .val (.long (f5 (q1 + q3))), .second, .val (.long (f6 (q2 + q4))), .second, .unset, .unset] []))
      refine Go.step (fun t k => XS.lload X12.here hx rfl (hb hby at_66) rfl k) ?_
      show Go p e below _ (T12.setTop (mkF m 68 #[.val (.long q1), .second, .val (.long q2), .second, .val (.long q3), .second, .val (.long q4), .second, .val (.ref b5), .val (.ref b7), .val (.ref b9_0), .val (.ref b10_0), .val (.long (f5 (q1 + q3))), .second, .val (.long (f6 (q2 + q4))), .second, .unset, .unset] [(.long (f6 (q2 + q4)))]))
      refine Go.step (fun t k => XS.lload X12.here hx rfl (hb hby at_68) rfl k) ?_
      show Go p e below _ (T12.setTop (mkF m 70 #[.val (.long q1), .second, .val (.long q2), .second, .val (.long q3), .second, .val (.long q4), .second, .val (.ref b5), .val (.ref b7), .val (.ref b9_0), .val (.ref b10_0), .val (.long (f5 (q1 + q3))), .second, .val (.long (f6 (q2 + q4))), .second, .unset, .unset] [(.long q4), (.long (f6 (q2 + q4)))]))
      refine Go.step (fun t k => XS.lsub X12.here hx rfl (hb hby at_70) rfl k) ?_
      show Go p e below _ (T12.setTop (mkF m 71 #[.val (.long q1), .second, .val (.long q2), .second, .val (.long q3), .second, .val (.long q4), .second, .val (.ref b5), .val (.ref b7), .val (.ref b9_0), .val (.ref b10_0), .val (.long (f5 (q1 + q3))), .second, .val (.long (f6 (q2 + q4))), .second, .unset, .unset] [(.long ((f6 (q2 + q4)) - q4))]))
      refine Go.step (fun t k => XS.lloadN X12.here hx rfl (hb hby at_71) rfl k) ?_
      show Go p e below _ (T12.setTop (mkF m 72 #[.val (.long q1), .second, .val (.long q2), .second, .val (.long q3), .second, .val (.long q4), .second, .val (.ref b5), .val (.ref b7), .val (.ref b9_0), .val (.ref b10_0), .val (.long (f5 (q1 + q3))), .second, .val (.long (f6 (q2 + q4))), .second, .unset, .unset] [(.long q2), (.long ((f6 (q2 + q4)) - q4))]))
      refine Go.step (fun t k => XS.lcmp X12.here hx rfl (hb hby at_72) rfl k) ?_
      show Go p e below _ (T12.setTop (mkF m 73 #[.val (.long q1), .second, .val (.long q2), .second, .val (.long q3), .second, .val (.long q4), .second, .val (.ref b5), .val (.ref b7), .val (.ref b9_0), .val (.ref b10_0), .val (.long (f5 (q1 + q3))), .second, .val (.long (f6 (q2 + q4))), .second, .unset, .unset] [(.int (lcmpW ((f6 (q2 + q4)) - q4) q2))]))
      by_cases hc14 : ((f6 (q2 + q4)) - q4) = q2
      · refine Go.step (fun t k => XS.ifNo X12.here hx rfl (hb hby at_73) rfl ((if0 _ _).trans (teq ((lw_eq _ _).mpr hc14)).2) k) ?_
        show Go p e below _ (T12.setTop (mkF m 76 #[.val (.long q1), .second, .val (.long q2), .second, .val (.long q3), .second, .val (.long q4), .second, .val (.ref b5), .val (.ref b7), .val (.ref b9_0), .val (.ref b10_0), .val (.long (f5 (q1 + q3))), .second, .val (.long (f6 (q2 + q4))), .second, .unset, .unset] []))
        refine Go.step (fun t k => XS.iconst X12.here hx rfl (hb hby at_76)  k) ?_
        show Go p e below _ (T12.setTop (mkF m 77 #[.val (.long q1), .second, .val (.long q2), .second, .val (.long q3), .second, .val (.long q4), .second, .val (.ref b5), .val (.ref b7), .val (.ref b9_0), .val (.ref b10_0), .val (.long (f5 (q1 + q3))), .second, .val (.long (f6 (q2 + q4))), .second, .unset, .unset] [(.int (1 : Int32))]))
        refine Go.step (fun t k => XS.goto X12.here hx rfl (pc0 := 77) (pc' := 81) rfl (hb hby at_77) (by decide) (by decide) k) ?_
        show Go p e below _ (T12.setTop (mkF m 81 #[.val (.long q1), .second, .val (.long q2), .second, .val (.long q3), .second, .val (.long q4), .second, .val (.ref b5), .val (.ref b7), .val (.ref b9_0), .val (.ref b10_0), .val (.long (f5 (q1 + q3))), .second, .val (.long (f6 (q2 + q4))), .second, .unset, .unset] [(.int (1 : Int32))]))
        exact Go.here ⟨_, _, by simp only [hv15, if_pos hc13, if_pos hc14], X12, N12, e12⟩
      · refine Go.step (fun t k => XS.ifYes X12.here hx rfl (pc0 := 73) (pc' := 80) rfl (hb hby at_73) rfl ((if0 _ _).trans (feq (fun q => hc14 ((lw_eq _ _).mp q))).2) (by decide) (by decide) k) ?_
        show Go p e below _ (T12.setTop (mkF m 80 #[.val (.long q1), .second, .val (.long q2), .second, .val (.long q3), .second, .val (.long q4), .second, .val (.ref b5), .val (.ref b7), .val (.ref b9_0), .val (.ref b10_0), .val (.long (f5 (q1 + q3))), .second, .val (.long (f6 (q2 + q4))), .second, .unset, .unset] []))
        refine Go.step (fun t k => XS.iconst X12.here hx rfl (hb hby at_80)  k) ?_
        show Go p e below _ (T12.setTop (mkF m 81 #[.val (.long q1), .second, .val (.long q2), .second, .val (.long q3), .second, .val (.long q4), .second, .val (.ref b5), .val (.ref b7), .val (.ref b9_0), .val (.ref b10_0), .val (.long (f5 (q1 + q3))), .second, .val (.long (f6 (q2 + q4))), .second, .unset, .unset] [(.int (0 : Int32))]))
        exact Go.here ⟨_, _, by simp only [hv15, if_pos hc13, if_neg hc14], X12, N12, e12⟩
    · refine Go.step (fun t k => XS.ifYes X12.here hx rfl (pc0 := 63) (pc' := 80) rfl (hb hby at_63) rfl ((if0 _ _).trans (feq (fun q => hc13 ((lw_eq _ _).mp q))).2) (by decide) (by decide) k) ?_
      show Go p e below _ (T12.setTop (mkF m 80 #[.val (.long q1), .second, .val (.long q2), .second, .val (.long q3), .second, .val (.long q4), .second, .val (.ref b5), .val (.ref b7), .val (.ref b9_0), .val (.ref b10_0), .val (.long (f5 (q1 + q3))), .second, .val (.long (f6 (q2 + q4))), .second, .unset, .unset] []))
      refine Go.step (fun t k => XS.iconst X12.here hx rfl (hb hby at_80)  k) ?_
      show Go p e below _ (T12.setTop (mkF m 81 #[.val (.long q1), .second, .val (.long q2), .second, .val (.long q3), .second, .val (.long q4), .second, .val (.ref b5), .val (.ref b7), .val (.ref b9_0), .val (.ref b10_0), .val (.long (f5 (q1 + q3))), .second, .val (.long (f6 (q2 + q4))), .second, .unset, .unset] [(.int (0 : Int32))]))
      exact Go.here ⟨_, _, by simp only [hv15, if_neg hc13], X12, N12, e12⟩
  obtain ⟨_, st16, T16, Lj16, rfl, X16, N16, e16⟩ := J63
  refine Go.trans st16 ?_
  show Go p e below _ (T16.setTop (mkF m 81 #[.val (.long q1), .second, .val (.long q2), .second, .val (.long q3), .second, .val (.long q4), .second, .val (.ref b5), .val (.ref b7), .val (.ref b9_0), .val (.ref b10_0), .val (.long (f5 (q1 + q3))), .second, .val (.long (f6 (q2 + q4))), .second, .unset, .unset] [(.int v15)]))
  refine Go.step (fun t k => XS.istore X16.here hx rfl (hb hby at_81) rfl (l' := #[.val (.long q1), .second, .val (.long q2), .second, .val (.long q3), .second, .val (.long q4), .second, .val (.ref b5), .val (.ref b7), .val (.ref b9_0), .val (.ref b10_0), .val (.long (f5 (q1 + q3))), .second, .val (.long (f6 (q2 + q4))), .second, .val (.int v15), .unset]) rfl k) ?_
  show Go p e below _ (T16.setTop (mkF m 83 #[.val (.long q1), .second, .val (.long q2), .second, .val (.long q3), .second, .val (.long q4), .second, .val (.ref b5), .val (.ref b7), .val (.ref b9_0), .val (.ref b10_0), .val (.long (f5 (q1 + q3))), .second, .val (.long (f6 (q2 + q4))), .second, .val (.int v15), .unset] []))
  refine Go.step (fun t k => XS.aload X16.here hx rfl (hb hby at_83) rfl rfl k) ?_
  show Go p e below _ (T16.setTop (mkF m 85 #[.val (.long q1), .second, .val (.long q2), .second, .val (.long q3), .second, .val (.long q4), .second, .val (.ref b5), .val (.ref b7), .val (.ref b9_0), .val (.ref b10_0), .val (.long (f5 (q1 + q3))), .second, .val (.long (f6 (q2 + q4))), .second, .val (.int v15), .unset] [(.ref b10_0)]))
  obtain ⟨cq17, kq17, q17a, q17b, q17c⟩ := isOf hZ e16 Q10_0
  obtain ⟨_, _, ⟨T17, L17, k17, n17⟩, -, X17, ⟨Lc17, hQ17, l17, y17, z17⟩, st17⟩ := X16.virtualBack hx (y := (⟨"com/example/menshen/menshen/store/UsageStore$Tally", "admitted", "()J"⟩ : MethodName)) (z := (⟨"com/example/menshen/menshen/store/UsageStore$Tally", "admitted", "()J"⟩ : MethodName)) hown (mvT hZ (hw _ (List.mem_of_getElem? (i := 25) rfl))) (mvT hZ (hw _ (List.mem_of_getElem? (i := 26) rfl))) (notFace_of_selects (args := #[]) (mvT hZ (hw _ (List.mem_of_getElem? (i := 28) rfl)))) (mvT hZ (hw _ (List.mem_of_getElem? (i := 28) rfl))) (mvT hZ (hw _ (List.mem_of_getElem? (i := 27) rfl))) (by decide) (backOf (W := 0) (rm5 l Z a0 hw [] b10_0 (q3 + q1) T10.heap n0 Z10 Q10_2) hZ (hw _ (List.mem_of_getElem? (i := 29) rfl)) (hw _ (List.mem_of_getElem? (i := 2) rfl)) (by decide) (by decide)) q17a q17c (g := (mkF m 85 #[.val (.long q1), .second, .val (.long q2), .second, .val (.long q3), .second, .val (.long q4), .second, .val (.ref b5), .val (.ref b7), .val (.ref b9_0), .val (.ref b10_0), .val (.long (f5 (q1 + q3))), .second, .val (.long (f6 (q2 + q4))), .second, .val (.int v15), .unset] [(.ref b10_0)])) rfl (by rw [hml]; rfl) (Steps.refl _) (argsL := []) (rest := []) (lenOf pd_3 rfl) rfl (by show 2 * 0 + _ ≤ _; exact Nat.le_of_eq rfl) (hb hby at_85) (fun _ _ => ⟨rfl, e16, (by decide : 4 + 0 ≤ _), (by decide : 8 + 0 ≤ _)⟩)
  dsimp only [Pt.U, Pt.locs, Pt.cells, Pt.slots] at X17 l17 y17 z17 st17 hQ17
  subst l17 y17 z17
  obtain ⟨rfl, N17q, e17⟩ := hQ17
  have N17 := Fr.app N16 N17q
  refine Go.trans st17 ?_
  show Go p e below _ (T17.setTop (mkF m 88 #[.val (.long q1), .second, .val (.long q2), .second, .val (.long q3), .second, .val (.long q4), .second, .val (.ref b5), .val (.ref b7), .val (.ref b9_0), .val (.ref b10_0), .val (.long (f5 (q1 + q3))), .second, .val (.long (f6 (q2 + q4))), .second, .val (.int v15), .unset] [(.long (f5 (q3 + q1)))]))
  refine Go.step (fun t k => XS.lload X17.here hx rfl (hb hby at_88) rfl k) ?_
  show Go p e below _ (T17.setTop (mkF m 90 #[.val (.long q1), .second, .val (.long q2), .second, .val (.long q3), .second, .val (.long q4), .second, .val (.ref b5), .val (.ref b7), .val (.ref b9_0), .val (.ref b10_0), .val (.long (f5 (q1 + q3))), .second, .val (.long (f6 (q2 + q4))), .second, .val (.int v15), .unset] [(.long (f5 (q1 + q3))), (.long (f5 (q3 + q1)))]))
  refine Go.step (fun t k => XS.lcmp X17.here hx rfl (hb hby at_90) rfl k) ?_
  show Go p e below _ (T17.setTop (mkF m 91 #[.val (.long q1), .second, .val (.long q2), .second, .val (.long q3), .second, .val (.long q4), .second, .val (.ref b5), .val (.ref b7), .val (.ref b9_0), .val (.ref b10_0), .val (.long (f5 (q1 + q3))), .second, .val (.long (f6 (q2 + q4))), .second, .val (.int v15), .unset] [(.int (lcmpW (f5 (q3 + q1)) (f5 (q1 + q3))))]))
  obtain ⟨v21, hv21⟩ : ∃ z : Int32, z = (if (f5 (q3 + q1)) = (f5 (q1 + q3)) then (if (f6 (q4 + q2)) = (f6 (q2 + q4)) then (1 : Int32) else (0 : Int32)) else (0 : Int32)) := ⟨_, rfl⟩
  have J91 : Go p e below (AtF p l e room_1 s m #[(.long q1), (.long q2), (.long q3), (.long q4)] below meth c n0 4 8 T10.heap (mkF m 110 #[.val (.long q1), .second, .val (.long q2), .second, .val (.long q3), .second, .val (.long q4), .second, .val (.ref b5), .val (.ref b7), .val (.ref b9_0), .val (.ref b10_0), .val (.long (f5 (q1 + q3))), .second, .val (.long (f6 (q2 + q4))), .second, .val (.int v15), .unset] [(.int v21)])) (T17.setTop (mkF m 91 #[.val (.long q1), .second, .val (.long q2), .second, .val (.long q3), .second, .val (.long q4), .second, .val (.ref b5), .val (.ref b7), .val (.ref b9_0), .val (.ref b10_0), .val (.long (f5 (q1 + q3))), .second, .val (.long (f6 (q2 + q4))), .second, .val (.int v15), .unset] [(.int (lcmpW (f5 (q3 + q1)) (f5 (q1 + q3))))])) := by
    by_cases hc18 : (f5 (q3 + q1)) = (f5 (q1 + q3))
    · refine Go.step (fun t k => XS.ifNo X17.here hx rfl (hb hby at_91) rfl ((if0 _ _).trans (teq ((lw_eq _ _).mpr hc18)).2) k) ?_
      show Go p e below _ (T17.setTop (mkF m 94 #[.val (.long q1), .second, .val (.long q2), .second, .val (.long q3), .second, .val (.long q4), .second, .val (.ref b5), .val (.ref b7), .val (.ref b9_0), .val (.ref b10_0), .val (.long (f5 (q1 + q3))), .second, .val (.long (f6 (q2 + q4))), .second, .val (.int v15), .unset] []))
      refine Go.step (fun t k => XS.aload X17.here hx rfl (hb hby at_94) rfl rfl k) ?_
      show Go p e below _ (T17.setTop (mkF m 96 #[.val (.long q1), .second, .val (.long q2), .second, .val (.long q3), .second, .val (.long q4), .second, .val (.ref b5), .val (.ref b7), .val (.ref b9_0), .val (.ref b10_0), .val (.long (f5 (q1 + q3))), .second, .val (.long (f6 (q2 + q4))), .second, .val (.int v15), .unset] [(.ref b10_0)]))
      obtain ⟨cq19, kq19, q19a, q19b, q19c⟩ := isOf hZ e17 Q10_0
      obtain ⟨_, _, ⟨T19, L19, k19, n19⟩, -, X19, ⟨Lc19, hQ19, l19, y19, z19⟩, st19⟩ := X17.virtualBack hx (y := (⟨"com/example/menshen/menshen/store/UsageStore$Tally", "refused", "()J"⟩ : MethodName)) (z := (⟨"com/example/menshen/menshen/store/UsageStore$Tally", "refused", "()J"⟩ : MethodName)) hown (mvT hZ (hw _ (List.mem_of_getElem? (i := 30) rfl))) (mvT hZ (hw _ (List.mem_of_getElem? (i := 31) rfl))) (notFace_of_selects (args := #[]) (mvT hZ (hw _ (List.mem_of_getElem? (i := 33) rfl)))) (mvT hZ (hw _ (List.mem_of_getElem? (i := 33) rfl))) (mvT hZ (hw _ (List.mem_of_getElem? (i := 32) rfl))) (by decide) (backOf (W := 0) (rm6 l Z a0 hw [] b10_0 (q4 + q2) T10.heap n0 Z10 Q10_1) hZ (hw _ (List.mem_of_getElem? (i := 34) rfl)) (hw _ (List.mem_of_getElem? (i := 2) rfl)) (by decide) (by decide)) q19a q19c (g := (mkF m 96 #[.val (.long q1), .second, .val (.long q2), .second, .val (.long q3), .second, .val (.long q4), .second, .val (.ref b5), .val (.ref b7), .val (.ref b9_0), .val (.ref b10_0), .val (.long (f5 (q1 + q3))), .second, .val (.long (f6 (q2 + q4))), .second, .val (.int v15), .unset] [(.ref b10_0)])) rfl (by rw [hml]; rfl) (Steps.refl _) (argsL := []) (rest := []) (lenOf pd_3 rfl) rfl (by show 2 * 0 + _ ≤ _; exact Nat.le_of_eq rfl) (hb hby at_96) (fun _ _ => ⟨rfl, e17, (by decide : 4 + 0 ≤ _), (by decide : 8 + 0 ≤ _)⟩)
      dsimp only [Pt.U, Pt.locs, Pt.cells, Pt.slots] at X19 l19 y19 z19 st19 hQ19
      subst l19 y19 z19
      obtain ⟨rfl, N19q, e19⟩ := hQ19
      have N19 := Fr.app N17 N19q
      refine Go.trans st19 ?_
      show Go p e below _ (T19.setTop (mkF m 99 #[.val (.long q1), .second, .val (.long q2), .second, .val (.long q3), .second, .val (.long q4), .second, .val (.ref b5), .val (.ref b7), .val (.ref b9_0), .val (.ref b10_0), .val (.long (f5 (q1 + q3))), .second, .val (.long (f6 (q2 + q4))), .second, .val (.int v15), .unset] [(.long (f6 (q4 + q2)))]))
      refine Go.step (fun t k => XS.lload X19.here hx rfl (hb hby at_99) rfl k) ?_
      show Go p e below _ (T19.setTop (mkF m 101 #[.val (.long q1), .second, .val (.long q2), .second, .val (.long q3), .second, .val (.long q4), .second, .val (.ref b5), .val (.ref b7), .val (.ref b9_0), .val (.ref b10_0), .val (.long (f5 (q1 + q3))), .second, .val (.long (f6 (q2 + q4))), .second, .val (.int v15), .unset] [(.long (f6 (q2 + q4))), (.long (f6 (q4 + q2)))]))
      refine Go.step (fun t k => XS.lcmp X19.here hx rfl (hb hby at_101) rfl k) ?_
      show Go p e below _ (T19.setTop (mkF m 102 #[.val (.long q1), .second, .val (.long q2), .second, .val (.long q3), .second, .val (.long q4), .second, .val (.ref b5), .val (.ref b7), .val (.ref b9_0), .val (.ref b10_0), .val (.long (f5 (q1 + q3))), .second, .val (.long (f6 (q2 + q4))), .second, .val (.int v15), .unset] [(.int (lcmpW (f6 (q4 + q2)) (f6 (q2 + q4))))]))
      by_cases hc20 : (f6 (q4 + q2)) = (f6 (q2 + q4))
      · refine Go.step (fun t k => XS.ifNo X19.here hx rfl (hb hby at_102) rfl ((if0 _ _).trans (teq ((lw_eq _ _).mpr hc20)).2) k) ?_
        show Go p e below _ (T19.setTop (mkF m 105 #[.val (.long q1), .second, .val (.long q2), .second, .val (.long q3), .second, .val (.long q4), .second, .val (.ref b5), .val (.ref b7), .val (.ref b9_0), .val (.ref b10_0), .val (.long (f5 (q1 + q3))), .second, .val (.long (f6 (q2 + q4))), .second, .val (.int v15), .unset] []))
        refine Go.step (fun t k => XS.iconst X19.here hx rfl (hb hby at_105)  k) ?_
        show Go p e below _ (T19.setTop (mkF m 106 #[.val (.long q1), .second, .val (.long q2), .second, .val (.long q3), .second, .val (.long q4), .second, .val (.ref b5), .val (.ref b7), .val (.ref b9_0), .val (.ref b10_0), .val (.long (f5 (q1 + q3))), .second, .val (.long (f6 (q2 + q4))), .second, .val (.int v15), .unset] [(.int (1 : Int32))]))
        refine Go.step (fun t k => XS.goto X19.here hx rfl (pc0 := 106) (pc' := 110) rfl (hb hby at_106) (by decide) (by decide) k) ?_
        show Go p e below _ (T19.setTop (mkF m 110 #[.val (.long q1), .second, .val (.long q2), .second, .val (.long q3), .second, .val (.long q4), .second, .val (.ref b5), .val (.ref b7), .val (.ref b9_0), .val (.ref b10_0), .val (.long (f5 (q1 + q3))), .second, .val (.long (f6 (q2 + q4))), .second, .val (.int v15), .unset] [(.int (1 : Int32))]))
        exact Go.here ⟨_, _, by simp only [hv21, if_pos hc18, if_pos hc20], X19, N19, e19⟩
      · refine Go.step (fun t k => XS.ifYes X19.here hx rfl (pc0 := 102) (pc' := 109) rfl (hb hby at_102) rfl ((if0 _ _).trans (feq (fun q => hc20 ((lw_eq _ _).mp q))).2) (by decide) (by decide) k) ?_
        show Go p e below _ (T19.setTop (mkF m 109 #[.val (.long q1), .second, .val (.long q2), .second, .val (.long q3), .second, .val (.long q4), .second, .val (.ref b5), .val (.ref b7), .val (.ref b9_0), .val (.ref b10_0), .val (.long (f5 (q1 + q3))), .second, .val (.long (f6 (q2 + q4))), .second, .val (.int v15), .unset] []))
        refine Go.step (fun t k => XS.iconst X19.here hx rfl (hb hby at_109)  k) ?_
        show Go p e below _ (T19.setTop (mkF m 110 #[.val (.long q1), .second, .val (.long q2), .second, .val (.long q3), .second, .val (.long q4), .second, .val (.ref b5), .val (.ref b7), .val (.ref b9_0), .val (.ref b10_0), .val (.long (f5 (q1 + q3))), .second, .val (.long (f6 (q2 + q4))), .second, .val (.int v15), .unset] [(.int (0 : Int32))]))
        exact Go.here ⟨_, _, by simp only [hv21, if_pos hc18, if_neg hc20], X19, N19, e19⟩
    · refine Go.step (fun t k => XS.ifYes X17.here hx rfl (pc0 := 91) (pc' := 109) rfl (hb hby at_91) rfl ((if0 _ _).trans (feq (fun q => hc18 ((lw_eq _ _).mp q))).2) (by decide) (by decide) k) ?_
      show Go p e below _ (T17.setTop (mkF m 109 #[.val (.long q1), .second, .val (.long q2), .second, .val (.long q3), .second, .val (.long q4), .second, .val (.ref b5), .val (.ref b7), .val (.ref b9_0), .val (.ref b10_0), .val (.long (f5 (q1 + q3))), .second, .val (.long (f6 (q2 + q4))), .second, .val (.int v15), .unset] []))
      refine Go.step (fun t k => XS.iconst X17.here hx rfl (hb hby at_109)  k) ?_
      show Go p e below _ (T17.setTop (mkF m 110 #[.val (.long q1), .second, .val (.long q2), .second, .val (.long q3), .second, .val (.long q4), .second, .val (.ref b5), .val (.ref b7), .val (.ref b9_0), .val (.ref b10_0), .val (.long (f5 (q1 + q3))), .second, .val (.long (f6 (q2 + q4))), .second, .val (.int v15), .unset] [(.int (0 : Int32))]))
      exact Go.here ⟨_, _, by simp only [hv21, if_neg hc18], X17, N17, e17⟩
  obtain ⟨_, st22, T22, Lj22, rfl, X22, N22, e22⟩ := J91
  refine Go.trans st22 ?_
  show Go p e below _ (T22.setTop (mkF m 110 #[.val (.long q1), .second, .val (.long q2), .second, .val (.long q3), .second, .val (.long q4), .second, .val (.ref b5), .val (.ref b7), .val (.ref b9_0), .val (.ref b10_0), .val (.long (f5 (q1 + q3))), .second, .val (.long (f6 (q2 + q4))), .second, .val (.int v15), .unset] [(.int v21)]))
  refine Go.step (fun t k => XS.istore X22.here hx rfl (hb hby at_110) rfl (l' := #[.val (.long q1), .second, .val (.long q2), .second, .val (.long q3), .second, .val (.long q4), .second, .val (.ref b5), .val (.ref b7), .val (.ref b9_0), .val (.ref b10_0), .val (.long (f5 (q1 + q3))), .second, .val (.long (f6 (q2 + q4))), .second, .val (.int v15), .val (.int v21)]) rfl k) ?_
  show Go p e below _ (T22.setTop (mkF m 112 #[.val (.long q1), .second, .val (.long q2), .second, .val (.long q3), .second, .val (.long q4), .second, .val (.ref b5), .val (.ref b7), .val (.ref b9_0), .val (.ref b10_0), .val (.long (f5 (q1 + q3))), .second, .val (.long (f6 (q2 + q4))), .second, .val (.int v15), .val (.int v21)] []))
  refine Go.step (fun t k => XS.iload X22.here hx rfl (hb hby at_112) rfl k) ?_
  show Go p e below _ (T22.setTop (mkF m 114 #[.val (.long q1), .second, .val (.long q2), .second, .val (.long q3), .second, .val (.long q4), .second, .val (.ref b5), .val (.ref b7), .val (.ref b9_0), .val (.ref b10_0), .val (.long (f5 (q1 + q3))), .second, .val (.long (f6 (q2 + q4))), .second, .val (.int v15), .val (.int v21)] [(.int v15)]))
  by_cases hc23 : v15 = (0 : Int32)
  · refine Go.step (fun t k => XS.ifYes X22.here hx rfl (pc0 := 114) (pc' := 126) rfl (hb hby at_114) rfl ((if0 _ _).trans (teq hc23).1) (by decide) (by decide) k) ?_
    show Go p e below _ (T22.setTop (mkF m 126 #[.val (.long q1), .second, .val (.long q2), .second, .val (.long q3), .second, .val (.long q4), .second, .val (.ref b5), .val (.ref b7), .val (.ref b9_0), .val (.ref b10_0), .val (.long (f5 (q1 + q3))), .second, .val (.long (f6 (q2 + q4))), .second, .val (.int v15), .val (.int v21)] []))
    refine Go.step (fun t k => XS.iconst X22.here hx rfl (hb hby at_126)  k) ?_
    show Go p e below _ (T22.setTop (mkF m 127 #[.val (.long q1), .second, .val (.long q2), .second, .val (.long q3), .second, .val (.long q4), .second, .val (.ref b5), .val (.ref b7), .val (.ref b9_0), .val (.ref b10_0), .val (.long (f5 (q1 + q3))), .second, .val (.long (f6 (q2 + q4))), .second, .val (.int v15), .val (.int v21)] [(.int (0 : Int32))]))
    subst hv21
    subst hv15
    exact retGN X22 hx Bd.notSynchronized Bd.returns (t := .boolean) (by simp) (z' := (0 : Int32)) rfl (hb hby at_127) ⟨by first | (simp only [f0, if_pos hc23]; done) | rfl | (simp [f0, if_pos hc23]; done), N22⟩ (by decide) (by decide)
  · refine Go.step (fun t k => XS.ifNo X22.here hx rfl (hb hby at_114) rfl ((if0 _ _).trans (feq hc23).1) k) ?_
    show Go p e below _ (T22.setTop (mkF m 117 #[.val (.long q1), .second, .val (.long q2), .second, .val (.long q3), .second, .val (.long q4), .second, .val (.ref b5), .val (.ref b7), .val (.ref b9_0), .val (.ref b10_0), .val (.long (f5 (q1 + q3))), .second, .val (.long (f6 (q2 + q4))), .second, .val (.int v15), .val (.int v21)] []))
    refine Go.step (fun t k => XS.iload X22.here hx rfl (hb hby at_117) rfl k) ?_
    show Go p e below _ (T22.setTop (mkF m 119 #[.val (.long q1), .second, .val (.long q2), .second, .val (.long q3), .second, .val (.long q4), .second, .val (.ref b5), .val (.ref b7), .val (.ref b9_0), .val (.ref b10_0), .val (.long (f5 (q1 + q3))), .second, .val (.long (f6 (q2 + q4))), .second, .val (.int v15), .val (.int v21)] [(.int v21)]))
    by_cases hc24 : v21 = (0 : Int32)
    · refine Go.step (fun t k => XS.ifYes X22.here hx rfl (pc0 := 119) (pc' := 126) rfl (hb hby at_119) rfl ((if0 _ _).trans (teq hc24).1) (by decide) (by decide) k) ?_
      show Go p e below _ (T22.setTop (mkF m 126 #[.val (.long q1), .second, .val (.long q2), .second, .val (.long q3), .second, .val (.long q4), .second, .val (.ref b5), .val (.ref b7), .val (.ref b9_0), .val (.ref b10_0), .val (.long (f5 (q1 + q3))), .second, .val (.long (f6 (q2 + q4))), .second, .val (.int v15), .val (.int v21)] []))
      refine Go.step (fun t k => XS.iconst X22.here hx rfl (hb hby at_126)  k) ?_
      show Go p e below _ (T22.setTop (mkF m 127 #[.val (.long q1), .second, .val (.long q2), .second, .val (.long q3), .second, .val (.long q4), .second, .val (.ref b5), .val (.ref b7), .val (.ref b9_0), .val (.ref b10_0), .val (.long (f5 (q1 + q3))), .second, .val (.long (f6 (q2 + q4))), .second, .val (.int v15), .val (.int v21)] [(.int (0 : Int32))]))
      subst hv21
      subst hv15
      exact retGN X22 hx Bd.notSynchronized Bd.returns (t := .boolean) (by simp) (z' := (0 : Int32)) rfl (hb hby at_127) ⟨by first | (simp only [f0, if_neg hc23, if_pos hc24]; done) | rfl | (simp [f0, if_neg hc23, if_pos hc24]; done), N22⟩ (by decide) (by decide)
    · refine Go.step (fun t k => XS.ifNo X22.here hx rfl (hb hby at_119) rfl ((if0 _ _).trans (feq hc24).1) k) ?_
      show Go p e below _ (T22.setTop (mkF m 122 #[.val (.long q1), .second, .val (.long q2), .second, .val (.long q3), .second, .val (.long q4), .second, .val (.ref b5), .val (.ref b7), .val (.ref b9_0), .val (.ref b10_0), .val (.long (f5 (q1 + q3))), .second, .val (.long (f6 (q2 + q4))), .second, .val (.int v15), .val (.int v21)] []))
      refine Go.step (fun t k => XS.iconst X22.here hx rfl (hb hby at_122)  k) ?_
      show Go p e below _ (T22.setTop (mkF m 123 #[.val (.long q1), .second, .val (.long q2), .second, .val (.long q3), .second, .val (.long q4), .second, .val (.ref b5), .val (.ref b7), .val (.ref b9_0), .val (.ref b10_0), .val (.long (f5 (q1 + q3))), .second, .val (.long (f6 (q2 + q4))), .second, .val (.int v15), .val (.int v21)] [(.int (1 : Int32))]))
      refine Go.step (fun t k => XS.goto X22.here hx rfl (pc0 := 123) (pc' := 127) rfl (hb hby at_123) (by decide) (by decide) k) ?_
      show Go p e below _ (T22.setTop (mkF m 127 #[.val (.long q1), .second, .val (.long q2), .second, .val (.long q3), .second, .val (.long q4), .second, .val (.ref b5), .val (.ref b7), .val (.ref b9_0), .val (.ref b10_0), .val (.long (f5 (q1 + q3))), .second, .val (.long (f6 (q2 + q4))), .second, .val (.int v15), .val (.int v21)] [(.int (1 : Int32))]))
      subst hv21
      subst hv15
      exact retGN X22 hx Bd.notSynchronized Bd.returns (t := .boolean) (by simp) (z' := (1 : Int32)) rfl (hb hby at_127) ⟨by first | (simp only [f0, if_neg hc23, if_neg hc24]; done) | rfl | (simp [f0, if_neg hc23, if_neg hc24]; done), N22⟩ (by decide) (by decide)

theorem law_true (a b c d : Int64) : f0 a b c d = 1 := by
  have h1 : a + c - c = a := Int64.add_sub_cancel _ _
  have h2 : b + d - d = b := Int64.add_sub_cancel _ _
  simp only [f0, f5, f6, h1, h2, Int64.add_comm c a, Int64.add_comm d b, if_pos]
  decide

set_option maxRecDepth 65536 in
set_option maxHeartbeats 40000000 in
theorem comes_1 {Post : Tables → Env → Array Value → State → Outcome → State → Prop} (hpost : ∀ tb e args s v u, (limb_1_1.after args s (.returned v) u = true ∧ limb_1_2.after args s (.returned v) u = true ∧ True) → FrameEnd s (.returned v) u (Jvm.fieldLocs frame_1_writes args s ++ Jvm.arrayLocs frame_1_arrays args s ++ Jvm.staticLocs frame_1_statics s) 16 128 → Post tb e args s (.returned v) u) :
    ArmFor flags0 classFile x code maxLocals ret World_1 tables_1 room_1 Calls_1 rest_1 Pre_1 Post := by
  intro l hfl _ _ p e ha hc hk s m args below hf hA hF happ hP
  obtain ⟨hcalls, hrest, hpre⟩ := hP
  obtain ⟨-, -, -, hnamed, -, -, -, hat⟩ := (Spec.applies_iff hf).mp happ
  obtain ⟨hg, hn⟩ := and_e (Cond.before_iff.mp (show (Jvm.Cond.and given_1 narrow_1).before args s = true from hpre))
  obtain ⟨g0, hg⟩ := and_e hg
  obtain ⟨ga0, hg⟩ := and_e hg
  obtain ⟨ga1, hg⟩ := and_e hg
  obtain ⟨ga2, hg⟩ := and_e hg
  have ga3 := hg
  obtain ⟨w0, w1, w2, w3, rfl⟩ : ∃ w0 w1 w2 w3 : Value, args = #[w0, w1, w2, w3] := by
    have hs : args.size = 4 := by simpa [Cond.value, given_1] using g0
    obtain ⟨L⟩ := args
    match L, hs with
    | [w0, w1, w2, w3], _ => exact ⟨w0, w1, w2, w3, rfl⟩
  have hw := fun d (hd : d ∈ tables_1) => atoms_spec (ws := Jvm.Cond.code x code maxLocals ret :: tables_1) hat d (List.mem_cons_of_mem _ hd)
  have hfit : Fit s := fun {y c} hc i hi => by
    obtain ⟨ha, rfl⟩ := Array.getElem?_eq_some_iff.mp hc
    have q := List.all_eq_true.mp ((Array.all_eq_true_iff_forall_mem.mp hF) _ (Array.getElem_mem ha)) i (List.mem_range.mpr hi)
    simpa [Array.getElem?_eq_getElem hi] using q
  obtain ⟨i0, ei0⟩ := isL_v ga0
  obtain rfl : w0 = (.long i0) := Option.some.inj ei0
  obtain ⟨i1, ei1⟩ := isL_v ga1
  obtain rfl : w1 = (.long i1) := Option.some.inj ei1
  obtain ⟨i2, ei2⟩ := isL_v ga2
  obtain rfl : w2 = (.long i2) := Option.some.inj ei2
  obtain ⟨i3, ei3⟩ := isL_v ga3
  obtain rfl : w3 = (.long i3) := Option.some.inj ei3
  obtain ⟨n, o, h1, h2, h3, v, L, rfl, hQ, hq⟩ := rm0 l s _ hw tables_1 i0 i1 i2 i3  s.heap s.heap.size (Nat.le_refl _)  p e ha hc hk s m _ below hf ((Spec.applies_iff_loose hf).mp happ).1 ⟨rfl, State.Warmed39.refl s, rfl⟩ trivial
  obtain ⟨hv, N⟩ := hQ
  rw [law_true i0 i1 i2 i3] at hv
  subst hv
  refine ⟨n, _, h1, h2, h3, hpost _ _ _ _ _ _ ⟨Cond.after_iff.mpr rfl, Cond.after_iff.mpr (eq_i res_at (Term.int_eval (1)) rfl), trivial⟩ ⟨hq.1, hq.2.1, (hq.2.2.sift fun y hy => Or.inr (N y hy)).mono (by decide) (by decide)⟩⟩
theorem main_1_1 : Claimed_1_1 := comes_1 fun _ _ _ _ _ _ h hF => ⟨h.1, hF⟩
theorem main_1_2 : Claimed_1_2 := comes_1 fun _ _ _ _ _ _ h hF => ⟨h.2.1, hF⟩
end Jvm.Pilot.@@N@@
namespace Jvm.Pilot.@@N@@
open Jvm Jvm.ClassFile Sem Op Lib Jvm.Free Jvm.Stand Jvm.Pilot.@@N@@.Jvm.D
/-! MADE BY PROGRAM (witnessworld.py) out of the Statement's table words and the real class files: 10 classes; the members and pool entries that the words name. The judged class is class 1, her method 1. -/
namespace start1
open Jvm.ClassFile
def u (s : String) : CpInfo := .utf8 (stringToUtf16 s)
/-- a pool by its gaps: so many unusable entries, then the entry; so many at the end -/
def gap : Nat → List CpInfo → List CpInfo
  | 0, r => r
  | n + 1, r => .unusable :: gap n r
def poolList (es : List (Nat × CpInfo)) (last : Nat) : List CpInfo := es.foldr (fun e r => gap e.1 (e.2 :: r)) (gap last [])
def pool (es : List (Nat × CpInfo)) (last : Nat) : Array CpInfo := ⟨poolList es last⟩
def fileOf (pool : Array CpInfo) (this : Nat) (attrs : Array Attribute := #[]) (ms : Array MethodInfo := #[]) (fl : Nat := 33) (sup : Nat := 0) (ifs : Array Nat := #[]) (fds : Array FieldInfo := #[]) : ClassFile where
  minorVersion := 0
  majorVersion := 65
  constantPool := pool
  accessFlags := fl
  thisClass := this
  superClass := sup
  interfaces := ifs
  fields := fds
  methods := ms
  attributes := attrs
def plain (name : String) (sup : Option ClassId) : Class where
  name := name
  kind := .ordinary
  loader := none
  accessFlags := 33
  super := sup
  interfaces := #[]
  cf := none
  fields := #[]
  methods := #[]
  instanceTypes := #[]
  staticTypes := #[]
  resolved := #[]
  callSites := []
  init := .initialized
  statics := none
  mirror := none

def pool0 : Array CpInfo := pool [(5, u "<init>"), (0, u "()V"), (1, .class_ 10), (1, u "java/lang/Object")] 113

def k0c0 : Code := { maxStack := 0, maxLocals := 1, code := object_method_1_code, exceptionTable := #[], attributes := #[] }
def k0m0 : Method := { name := "<init>", desc := "()V", sig := { parameters := [], returnType := none }, accessFlags := 1, code := some k0c0 }
/-- java/lang/Object -/
def k0 : Class := { plain "java/lang/Object" none with
  accessFlags := 33
  interfaces := #[]
  cf := some (fileOf pool0 8 #[] #[{ accessFlags := 1, nameIndex := 5, descriptorIndex := 6, attributes := #[] }] 33 0 #[] #[])
  fields := #[]
  methods := #[k0m0]
  instanceTypes := #[]
  staticTypes := #[]
  resolved := Array.replicate 124 none
  statics := none }

def pool1 : Array CpInfo := pool [(2, .class_ 4), (1, u "java/lang/Object"), (0, u "<init>"), (0, u "()V"), (0, .class_ 8), (0, u "com/example/menshen/menshen/store/UsageStore$Tally"), (0, .methodref 7 10), (0, .nameAndType 5 11), (0, u "(JJ)V"), (0, .methodref 7 13), (0, .nameAndType 14 15), (0, u "plus"), (0, u "(Lcom/example/menshen/menshen/store/UsageStore$Tally;)Lcom/example/menshen/menshen/store/UsageStore$Tally;"), (0, .methodref 7 17), (0, .nameAndType 18 19), (0, u "admitted"), (0, u "()J"), (0, .methodref 7 21), (0, .nameAndType 22 19), (0, u "refused"), (0, .class_ 24), (0, u "com/example/menshen/menshen/store/TallyPlusPinLaw"), (2, u "law"), (0, u "(JJJJ)Z")] 7

def k1m0 : Method := { name := "<init>", desc := "()V", sig := { parameters := [], returnType := none }, accessFlags := 2, code := none }
def k1c1 : Code := { maxStack := 6, maxLocals := 18, code := code, exceptionTable := #[], attributes := #[] }
def k1m1 : Method := { name := "law", desc := "(JJJJ)Z", sig := { parameters := [.long, .long, .long, .long], returnType := some .boolean }, accessFlags := 9, code := some k1c1 }
/-- com/example/menshen/menshen/store/TallyPlusPinLaw -/
def k1 : Class := { plain "com/example/menshen/menshen/store/TallyPlusPinLaw" (some 0) with
  accessFlags := 49
  interfaces := #[]
  cf := some (fileOf pool1 23 #[] #[{ accessFlags := 2, nameIndex := 5, descriptorIndex := 6, attributes := #[] }, { accessFlags := 9, nameIndex := 27, descriptorIndex := 28, attributes := #[] }] 49 2 #[] #[])
  fields := #[]
  methods := #[k1m0, k1m1]
  instanceTypes := #[]
  staticTypes := #[]
  resolved := Array.replicate 36 none
  statics := none }

def pool2 : Array CpInfo := pool [(1, .methodref 2 3), (0, .class_ 4), (0, .nameAndType 5 6), (0, u "java/lang/Object"), (0, u "<init>"), (0, u "()V"), (0, .class_ 8), (0, u "java/lang/Record")] 13

def k2c0 : Code := { maxStack := 1, maxLocals := 1, code := jdk_30_method_1_code, exceptionTable := #[], attributes := #[] }
def k2m0 : Method := { name := "<init>", desc := "()V", sig := { parameters := [], returnType := none }, accessFlags := 4, code := some k2c0 }
/-- java/lang/Record -/
def k2 : Class := { plain "java/lang/Record" (some 0) with
  accessFlags := 1057
  interfaces := #[]
  cf := some (fileOf pool2 7 #[] #[{ accessFlags := 4, nameIndex := 5, descriptorIndex := 6, attributes := #[] }] 1057 2 #[] #[])
  fields := #[]
  methods := #[k2m0]
  instanceTypes := #[]
  staticTypes := #[]
  resolved := Array.replicate 22 none
  statics := none }

def pool3 : Array CpInfo := pool [(1, .methodref 2 3), (0, .class_ 4), (0, .nameAndType 5 6), (0, u "java/lang/Record"), (0, u "<init>"), (0, u "()V"), (0, .fieldref 8 9), (0, .class_ 10), (0, .nameAndType 11 12), (0, u "com/example/menshen/menshen/store/UsageStore$Tally"), (0, u "admitted"), (0, u "J"), (0, .fieldref 8 14), (0, .nameAndType 15 12), (0, u "refused"), (0, .methodref 8 17), (0, .nameAndType 5 18), (0, u "(JJ)V"), (14, u "ADMITTED"), (0, u "Lcom/example/menshen/menshen/store/UsageStore$Tally;"), (2, u "REFUSED"), (3, u "plus"), (0, u "(Lcom/example/menshen/menshen/store/UsageStore$Tally;)Lcom/example/menshen/menshen/store/UsageStore$Tally;"), (3, u "()J"), (4, .class_ 52), (0, u "com/example/menshen/menshen/store/UsageStore")] 20

def k3c0 : Code := { maxStack := 3, maxLocals := 5, code := prog_65_method_1_code, exceptionTable := #[], attributes := #[] }
def k3m0 : Method := { name := "<init>", desc := "(JJ)V", sig := { parameters := [.long, .long], returnType := none }, accessFlags := 0, code := some k3c0 }
def k3c1 : Code := { maxStack := 8, maxLocals := 2, code := prog_65_method_2_code, exceptionTable := #[], attributes := #[] }
def k3m1 : Method := { name := "plus", desc := "(Lcom/example/menshen/menshen/store/UsageStore$Tally;)Lcom/example/menshen/menshen/store/UsageStore$Tally;", sig := { parameters := [(.object "com/example/menshen/menshen/store/UsageStore$Tally")], returnType := some (.object "com/example/menshen/menshen/store/UsageStore$Tally") }, accessFlags := 0, code := some k3c1 }
def k3c2 : Code := { maxStack := 2, maxLocals := 1, code := prog_65_method_6_code, exceptionTable := #[], attributes := #[] }
def k3m2 : Method := { name := "admitted", desc := "()J", sig := { parameters := [], returnType := some .long }, accessFlags := 1, code := some k3c2 }
def k3c3 : Code := { maxStack := 2, maxLocals := 1, code := prog_65_method_7_code, exceptionTable := #[], attributes := #[] }
def k3m3 : Method := { name := "refused", desc := "()J", sig := { parameters := [], returnType := some .long }, accessFlags := 1, code := some k3c3 }
/-- com/example/menshen/menshen/store/UsageStore$Tally -/
def k3 : Class := { plain "com/example/menshen/menshen/store/UsageStore$Tally" (some 2) with
  accessFlags := 48
  interfaces := #[]
  cf := some (fileOf pool3 8 #[.nestHost 51] #[{ accessFlags := 0, nameIndex := 5, descriptorIndex := 18, attributes := #[] }, { accessFlags := 0, nameIndex := 41, descriptorIndex := 42, attributes := #[] }, { accessFlags := 1, nameIndex := 11, descriptorIndex := 46, attributes := #[] }, { accessFlags := 1, nameIndex := 15, descriptorIndex := 46, attributes := #[] }] 48 2 #[] #[{ accessFlags := 18, nameIndex := 11, descriptorIndex := 12, attributes := #[] }, { accessFlags := 18, nameIndex := 15, descriptorIndex := 12, attributes := #[] }, { accessFlags := 24, nameIndex := 33, descriptorIndex := 34, attributes := #[] }, { accessFlags := 24, nameIndex := 37, descriptorIndex := 34, attributes := #[] }])
  fields := #[{ name := "admitted", type := .long, accessFlags := 18, slot := 0, constantValue := 0 }, { name := "refused", type := .long, accessFlags := 18, slot := 1, constantValue := 0 }, { name := "ADMITTED", type := (.object "com/example/menshen/menshen/store/UsageStore$Tally"), accessFlags := 24, slot := 0, constantValue := 0 }, { name := "REFUSED", type := (.object "com/example/menshen/menshen/store/UsageStore$Tally"), accessFlags := 24, slot := 1, constantValue := 0 }]
  methods := #[k3m0, k3m1, k3m2, k3m3]
  instanceTypes := #[.long, .long]
  staticTypes := #[(.object "com/example/menshen/menshen/store/UsageStore$Tally"), (.object "com/example/menshen/menshen/store/UsageStore$Tally")]
  resolved := Array.replicate 73 none
  statics := none }

def pool4 : Array CpInfo := pool [(1, u "java/lang/Cloneable"), (0, .class_ 1), (0, u "java/lang/Object"), (0, .class_ 3)] 3

/-- java/lang/Cloneable -/
def k4 : Class := { plain "java/lang/Cloneable" (some 0) with
  accessFlags := 1537
  interfaces := #[]
  cf := some (fileOf pool4 2 #[] #[] 1537 4 #[] #[])
  fields := #[]
  methods := #[]
  instanceTypes := #[]
  staticTypes := #[]
  resolved := Array.replicate 8 none
  statics := none }

def pool5 : Array CpInfo := pool [(1, u "java/io/Serializable"), (0, .class_ 1), (0, u "java/lang/Object"), (0, .class_ 3)] 3

/-- java/io/Serializable -/
def k5 : Class := { plain "java/io/Serializable" (some 0) with
  accessFlags := 1537
  interfaces := #[]
  cf := some (fileOf pool5 2 #[] #[] 1537 4 #[] #[])
  fields := #[]
  methods := #[]
  instanceTypes := #[]
  staticTypes := #[]
  resolved := Array.replicate 8 none
  statics := none }

/-- the primitive byte -/
def k6 : Class := { plain "byte" none with kind := .primitive 'B', accessFlags := 0x411 }
/-- [B -/
def k7 : Class := { plain "[B" (some 0) with kind := .array 6 .byte, interfaces := #[4, 5], accessFlags := 1041 }

/-- the primitive int -/
def k8 : Class := { plain "int" none with kind := .primitive 'I', accessFlags := 0x411 }
/-- [I -/
def k9 : Class := { plain "[I" (some 0) with kind := .array 8 .int, interfaces := #[4, 5], accessFlags := 1041 }

def heap : Heap := #[]
def classes : Array Class := #[k0, k1, k2, k3, k4, k5, k6, k7, k8, k9]
def interned : List (Array UInt16 × Addr) := []
def slotsUsed : Nat := 0
def theMethod : MethodId := ⟨1, 1⟩
def args0 : Array Value := #[.long 5, .long 7, .long 9, .long 11]
def aboutOver (below : List Frame) : State where
  vm := { classes := classes, interned := interned.toArray }
  heap := heap
  slotsUsed := slotsUsed
  threads := #[{ frames := .invoking theMethod args0 :: below }]
def below0 : List Frame := [.native { method := ⟨0, 0⟩, args := #[] }]
def about1 : State := aboutOver below0
def p0 : Program := .bare "" "" ""
def e0 : Env := launch0.env 0 0 0
theorem w_frames : about1.frames = Frame.invoking theMethod args0 :: below0 := rfl
set_option maxRecDepth 65536 in
theorem w_args : argsFit about1.vm theMethod args0 = true := by decide +kernel
set_option maxRecDepth 65536 in
theorem w_heap : heapFits about1 = true := by decide +kernel
set_option maxRecDepth 65536 in
theorem w_runnable : about1.curStatus? = some .runnable := by decide +kernel
set_option maxRecDepth 65536 in
theorem w_alone : about1.alone = true := by decide +kernel
set_option maxRecDepth 65536 in
theorem w_named : about1.methodNamed? x = some theMethod := by decide +kernel
set_option maxRecDepth 65536 in
theorem w_hears : about1.hears theMethod below0 = true := by decide +kernel
set_option maxRecDepth 65536 in
theorem w_ripe : about1.ripe theMethod args0 below0 = true := by decide +kernel
theorem w_running : about1.status = .running := rfl
set_option maxRecDepth 65536 in
theorem w_room : about1.hasRoom e0.platform room_1 = true :=
  launch0.hasRoom_least _ room_1 (by decide +kernel) (by decide +kernel) (by decide +kernel) (by decide +kernel) (by decide +kernel) (by decide +kernel)
theorem allAtoms_all (ts : List Jvm.Cond) (a : Array Jvm.Value) (st : Jvm.State) : (allAtoms ts).before a st = ts.all (fun c => c.before a st) := by
  induction ts with
  | nil => rfl
  | cons c t ih =>
    show (Jvm.Cond.and c (allAtoms t)).before a st = _
    rw [Jvm.Cond.before_and, ih, List.all_cons]
def words1 : List Jvm.Cond := Jvm.Cond.code x code maxLocals ret :: tables_1
/-- a 'code' word, met by the world's own term for the bytes: nothing is compared byte by byte -/
theorem code_word {y : MethodName} {bytes : ByteArray} {mx : Nat} {rt : Option FieldType} {a : Array Value} {s : State} {m : MethodId} {meth : Method} {c : Code} (h1 : s.methodNamed? y = some m) (h2 : s.vm.method? m = some meth) (h3 : meth.code = some c) (h4 : c.code = bytes)
    (h5 : (c.maxLocals == mx && c.exceptionTable.isEmpty && decide (c.maxStack ≤ mostOperands) && decide (meth.sig.returnType = rt) && !meth.locks && decide (parseMethodDescriptor y.desc = some meth.sig)) = true) : (Jvm.Cond.code y bytes mx rt).before a s = true := by
  simp only [Bool.and_eq_true, beq_iff_eq, Bool.not_eq_true', decide_eq_true_eq] at h5
  obtain ⟨⟨⟨⟨⟨g1, g2⟩, g3⟩, g4⟩, g5⟩, g6⟩ := h5
  simp [Cond.before, Cond.holds, Cond.value, h1, h2, h3, h4, g1, g2, g3, g4, g5, g6]
def isCode : Jvm.Cond → Bool
  | .code _ _ _ _ => true
  | _ => false
theorem all_split {L : List Jvm.Cond} {P : Jvm.Cond → Bool} (h1 : L.all (fun c => isCode c || P c) = true) (h2 : ∀ c ∈ L.filter isCode, P c = true) : L.all P = true := by
  refine List.all_eq_true.mpr fun c hc => ?_
  have h := List.all_eq_true.mp h1 c hc
  rcases Bool.eq_false_or_eq_true (isCode c) with hi | hi
  · exact h2 c (List.mem_filter.mpr ⟨hc, hi⟩)
  · simpa [hi] using h
set_option maxRecDepth 65536 in
theorem w_c0 : (Jvm.Cond.code x code maxLocals ret).before args0 about1 = true := code_word (m := ⟨1, 1⟩) (meth := k1m1) (c := k1c1) (by decide +kernel) rfl rfl rfl (by decide +kernel)
set_option maxRecDepth 65536 in
theorem w_c1 : (Jvm.Cond.code ({ cls := "com/example/menshen/menshen/store/UsageStore$Tally", name := "<init>", desc := "(JJ)V" } : Jvm.MethodName) prog_65_method_1_code (5 : Nat) (Option.none : Option Jvm.ClassFile.FieldType)).before args0 about1 = true := code_word (m := ⟨3, 0⟩) (meth := k3m0) (c := k3c0) (by decide +kernel) rfl rfl rfl (by decide +kernel)
set_option maxRecDepth 65536 in
theorem w_c2 : (Jvm.Cond.code ({ cls := "java/lang/Record", name := "<init>", desc := "()V" } : Jvm.MethodName) jdk_30_method_1_code (1 : Nat) (Option.none : Option Jvm.ClassFile.FieldType)).before args0 about1 = true := code_word (m := ⟨2, 0⟩) (meth := k2m0) (c := k2c0) (by decide +kernel) rfl rfl rfl (by decide +kernel)
set_option maxRecDepth 65536 in
theorem w_c3 : (Jvm.Cond.code ({ cls := "java/lang/Object", name := "<init>", desc := "()V" } : Jvm.MethodName) object_method_1_code (1 : Nat) (Option.none : Option Jvm.ClassFile.FieldType)).before args0 about1 = true := code_word (m := ⟨0, 0⟩) (meth := k0m0) (c := k0c0) (by decide +kernel) rfl rfl rfl (by decide +kernel)
set_option maxRecDepth 65536 in
theorem w_c4 : (Jvm.Cond.code ({ cls := "com/example/menshen/menshen/store/UsageStore$Tally", name := "plus", desc := "(Lcom/example/menshen/menshen/store/UsageStore$Tally;)Lcom/example/menshen/menshen/store/UsageStore$Tally;" } : Jvm.MethodName) prog_65_method_2_code (2 : Nat) (Option.some (Jvm.ClassFile.FieldType.object "com/example/menshen/menshen/store/UsageStore$Tally"))).before args0 about1 = true := code_word (m := ⟨3, 1⟩) (meth := k3m1) (c := k3c1) (by decide +kernel) rfl rfl rfl (by decide +kernel)
set_option maxRecDepth 65536 in
theorem w_c5 : (Jvm.Cond.code ({ cls := "com/example/menshen/menshen/store/UsageStore$Tally", name := "admitted", desc := "()J" } : Jvm.MethodName) prog_65_method_6_code (1 : Nat) (Option.some Jvm.ClassFile.FieldType.long)).before args0 about1 = true := code_word (m := ⟨3, 2⟩) (meth := k3m2) (c := k3c2) (by decide +kernel) rfl rfl rfl (by decide +kernel)
set_option maxRecDepth 65536 in
theorem w_c6 : (Jvm.Cond.code ({ cls := "com/example/menshen/menshen/store/UsageStore$Tally", name := "refused", desc := "()J" } : Jvm.MethodName) prog_65_method_7_code (1 : Nat) (Option.some Jvm.ClassFile.FieldType.long)).before args0 about1 = true := code_word (m := ⟨3, 3⟩) (meth := k3m3) (c := k3c3) (by decide +kernel) rfl rfl rfl (by decide +kernel)
def codes1 : List Jvm.Cond := [Jvm.Cond.code x code maxLocals ret, Jvm.Cond.code ({ cls := "com/example/menshen/menshen/store/UsageStore$Tally", name := "<init>", desc := "(JJ)V" } : Jvm.MethodName) prog_65_method_1_code (5 : Nat) (Option.none : Option Jvm.ClassFile.FieldType), Jvm.Cond.code ({ cls := "java/lang/Record", name := "<init>", desc := "()V" } : Jvm.MethodName) jdk_30_method_1_code (1 : Nat) (Option.none : Option Jvm.ClassFile.FieldType), Jvm.Cond.code ({ cls := "java/lang/Object", name := "<init>", desc := "()V" } : Jvm.MethodName) object_method_1_code (1 : Nat) (Option.none : Option Jvm.ClassFile.FieldType), Jvm.Cond.code ({ cls := "com/example/menshen/menshen/store/UsageStore$Tally", name := "plus", desc := "(Lcom/example/menshen/menshen/store/UsageStore$Tally;)Lcom/example/menshen/menshen/store/UsageStore$Tally;" } : Jvm.MethodName) prog_65_method_2_code (2 : Nat) (Option.some (Jvm.ClassFile.FieldType.object "com/example/menshen/menshen/store/UsageStore$Tally")), Jvm.Cond.code ({ cls := "com/example/menshen/menshen/store/UsageStore$Tally", name := "admitted", desc := "()J" } : Jvm.MethodName) prog_65_method_6_code (1 : Nat) (Option.some Jvm.ClassFile.FieldType.long), Jvm.Cond.code ({ cls := "com/example/menshen/menshen/store/UsageStore$Tally", name := "refused", desc := "()J" } : Jvm.MethodName) prog_65_method_7_code (1 : Nat) (Option.some Jvm.ClassFile.FieldType.long)]
set_option maxRecDepth 65536 in
theorem codes_eq : words1.filter isCode = codes1 := rfl
theorem w_codes : ∀ c ∈ words1.filter isCode, c.before args0 about1 = true := by
  rw [codes_eq]
  intro c hc
  simp only [codes1, List.mem_cons, List.not_mem_nil, or_false] at hc
  rcases hc with rfl | rfl | rfl | rfl | rfl | rfl | rfl
  · exact w_c0
  · exact w_c1
  · exact w_c2
  · exact w_c3
  · exact w_c4
  · exact w_c5
  · exact w_c6
set_option maxRecDepth 65536 in
theorem w_t1 : (words1.take 24).all (fun c => isCode c || c.before args0 about1) = true := by decide +kernel
set_option maxRecDepth 65536 in
theorem w_t2 : (words1.drop 24).all (fun c => isCode c || c.before args0 about1) = true := by decide +kernel
theorem w_tables : (allAtoms (Jvm.Cond.code x code maxLocals ret :: tables_1)).before args0 about1 = true := by
  rw [allAtoms_all]
  show words1.all (fun c => c.before args0 about1) = true
  refine all_split ?_ w_codes
  rw [← List.take_append_drop 24 words1, List.all_append, w_t1, w_t2]
  rfl
set_option maxRecDepth 65536 in
theorem w_case : (Jvm.Cond.and given_1 narrow_1).before args0 about1 = true := by decide +kernel
theorem w_applies : (headSpec (Jvm.Cond.code x code maxLocals ret :: tables_1) room_1).applies x e0.platform about1 = true :=
  (Spec.applies_iff w_frames).mpr ⟨w_running, w_runnable, w_alone, w_named, w_hears, w_ripe, w_room, w_tables⟩
theorem atStart : AtStart classFile x code maxLocals ret World_1 tables_1 room_1 Calls_1 rest_1 Pre_1 launch0 p0 e0 about1 theMethod args0 below0 :=
  ⟨lists_1, trivial, launch0.admits_env _ _ _, launch0.least_env, fairChoices_fair.cas, fairChoices_fair.clock, w_frames, w_args, w_heap, w_applies, trivial, trivial, w_case⟩
end start1
theorem witness_1 : WitnessClaimed_1 := ⟨start1.p0, start1.e0, start1.about1, start1.theMethod, start1.args0, start1.below0, start1.atStart⟩
end Jvm.Pilot.@@N@@
