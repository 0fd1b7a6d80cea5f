import JvmDerived
import JvmDerived.Pilot.@@N@@Statement
import JvmDerived.Pilot.@@N@@Code
set_option linter.unusedVariables false
set_option linter.unusedSimpArgs false
namespace Jvm.OwnKit
open Sem ClassFile Op Lib Jvm.Stand Jvm.Free Jvm.LawKit Jvm.RoadKit
/-- from S the run comes to a state of which Φ holds -/
def Go (p : Program) (e : Env) (below : List Frame) (Φ : State → Prop) (S : State) : Prop := ∃ u, Steps p.tables e below S u ∧ Φ u
theorem Go.step {p : Program} {e : Env} {below : List Frame} {Φ : State → Prop} {S S' : State} (h : ∀ t, Steps p.tables e below S' t → Steps p.tables e below S t) (k : Go p e below Φ S') : Go p e below Φ S := by
  obtain ⟨u, q, r⟩ := k
  exact ⟨u, h u q, r⟩
theorem Go.trans {p : Program} {e : Env} {below : List Frame} {Φ : State → Prop} {S S' : State} (h : Steps p.tables e below S S') (k : Go p e below Φ S') : Go p e below Φ S := by
  obtain ⟨u, q, r⟩ := k
  exact ⟨u, Steps.trans h q, r⟩
theorem Go.here {p : Program} {e : Env} {below : List Frame} {Φ : State → Prop} {S : State} (k : Φ S) : Go p e below Φ S := ⟨S, Steps.refl _, k⟩
/-- the end of a body -/
def FinQ (below : List Frame) (s : State) (Q : Option Value → Heap → List Loc → Prop) (k n : Nat) (u : State) : Prop :=
  ∃ o, u.status = .running ∧ Ended u below o ∧ ∃ v L, o = .returned v ∧ Q v u.heap L ∧ FrameEnd s o u L k n
theorem Go.done {p : Program} {e : Env} {below : List Frame} {s : State} {Q : Option Value → Heap → List Loc → Prop} {k n : Nat} {S : State} (h : Go p e below (FinQ below s Q k n) S) :
    ∃ s₂ o, Steps p.tables e below S s₂ ∧ s₂.status = .running ∧ Ended s₂ below o ∧ ∃ v L, o = .returned v ∧ Q v s₂.heap L ∧ FrameEnd s o s₂ L k n := by
  obtain ⟨u, q, o, r1, r2, r3⟩ := h
  exact ⟨u, o, q, r1, r2, r3⟩
section New
variable {p : Program} {l : Launch} {e : Env} {R : Room} {s : State} {m : MethodId} {args : Array Value} {below : List Frame} {meth : Method} {c : Code} {T : State} {locs : List Loc} {cells slots : Nat}
/-- the run stands at the frame F, in a heap h -/
def AtF (p : Program) (l : Launch) (e : Env) (R : Room) (s : State) (m : MethodId) (args : Array Value) (below : List Frame) (meth : Method) (c : Code) (n0 cells slots : Nat) (h : Heap) (F : JFrame) (u : State) : Prop :=
  ∃ T' locs', u = T'.setTop F ∧ Stand p l e R s m args below meth c T' locs' cells slots ∧ Fr n0 locs' ∧ T'.heap = h
theorem retG {pc : Nat} {Ls : Array Slot} {w : Value} {t : FieldType} {i : Instr} {rest : List Value} {Q : Option Value → Heap → List Loc → Prop} {k n : Nat}
    (X : Stand p l e R s m args below meth c T locs cells slots) (hx : p.tables.exec = Jvm.exec) (hlocks : meth.locks = false) (hret : meth.sig.returnType = some t) (hn : narrow t w = w)
    (hi : (i = .ireturn ∧ (t = .int ∨ t = .boolean ∨ t = .byte ∨ t = .char ∨ t = .short) ∧ ∃ z, w = .int z) ∨ (i = .lreturn ∧ t = .long ∧ ∃ z, w = .long z) ∨ (i = .dreturn ∧ t = .double ∧ ∃ z, w = .double z) ∨ (i = .freturn ∧ t = .float ∧ ∃ z, w = .float z) ∨ (i = .areturn ∧ t.isReference = true ∧ w.isRef = true))
    (hd : decode c.code pc = .ok (i, 1)) (hQ : Q (some w) T.heap locs) (hc : cells ≤ k) (hs : slots ≤ n) : Go p e below (FinQ below s Q k n) (T.setTop (mkF m pc Ls (w :: rest))) := by
  obtain ⟨fs, hr, hrun, hended, hW, hsame⟩ := X.leave (v := some w) (fun h => by rw [hret] at h; cases h) hlocks
  exact ⟨_, retOut X hx hret hn hi hd hr, _, hrun, hended, _, _, rfl, hQ, ⟨_, rfl⟩, hW, hsame.mono hc hs⟩
theorem retGI {pc : Nat} {Ls : Array Slot} {z : Int32} {rest : List Value} {Q : Option Value → Heap → List Loc → Prop} {k n : Nat}
    (X : Stand p l e R s m args below meth c T locs cells slots) (hx : p.tables.exec = Jvm.exec) (hlocks : meth.locks = false) (hret : meth.sig.returnType = some .int)
    (hd : decode c.code pc = .ok (.ireturn, 1)) (hQ : Q (some (.int z)) T.heap locs) (hc : cells ≤ k) (hs : slots ≤ n) : Go p e below (FinQ below s Q k n) (T.setTop (mkF m pc Ls (.int z :: rest))) :=
  retG X hx hlocks hret rfl (Or.inl ⟨rfl, Or.inl rfl, _, rfl⟩) hd hQ hc hs
theorem retGJ {pc : Nat} {Ls : Array Slot} {z : Int64} {rest : List Value} {Q : Option Value → Heap → List Loc → Prop} {k n : Nat}
    (X : Stand p l e R s m args below meth c T locs cells slots) (hx : p.tables.exec = Jvm.exec) (hlocks : meth.locks = false) (hret : meth.sig.returnType = some .long)
    (hd : decode c.code pc = .ok (.lreturn, 1)) (hQ : Q (some (.long z)) T.heap locs) (hc : cells ≤ k) (hs : slots ≤ n) : Go p e below (FinQ below s Q k n) (T.setTop (mkF m pc Ls (.long z :: rest))) :=
  retG X hx hlocks hret rfl (Or.inr (Or.inl ⟨rfl, rfl, _, rfl⟩)) hd hQ hc hs
theorem retGR {pc : Nat} {Ls : Array Slot} {a : Addr} {t : FieldType} {rest : List Value} {Q : Option Value → Heap → List Loc → Prop} {k n : Nat}
    (X : Stand p l e R s m args below meth c T locs cells slots) (hx : p.tables.exec = Jvm.exec) (hlocks : meth.locks = false) (hret : meth.sig.returnType = some t) (ht : t.isReference = true) (hn : narrow t (.ref a) = .ref a)
    (hd : decode c.code pc = .ok (.areturn, 1)) (hQ : Q (some (.ref a)) T.heap locs) (hc : cells ≤ k) (hs : slots ≤ n) : Go p e below (FinQ below s Q k n) (T.setTop (mkF m pc Ls (.ref a :: rest))) :=
  retG X hx hlocks hret hn (Or.inr (Or.inr (Or.inr (Or.inr ⟨rfl, ht, rfl⟩)))) hd hQ hc hs
theorem retGN {pc : Nat} {Ls : Array Slot} {z z' : Int32} {t : FieldType} {rest : List Value} {Q : Option Value → Heap → List Loc → Prop} {k n : Nat}
    (X : Stand p l e R s m args below meth c T locs cells slots) (hx : p.tables.exec = Jvm.exec) (hlocks : meth.locks = false) (hret : meth.sig.returnType = some t) (ht : t = .boolean ∨ t = .byte ∨ t = .char ∨ t = .short) (hz : nar t z = z')
    (hd : decode c.code pc = .ok (.ireturn, 1)) (hQ : Q (some (.int z')) T.heap locs) (hc : cells ≤ k) (hs : slots ≤ n) : Go p e below (FinQ below s Q k n) (T.setTop (mkF m pc Ls (.int z :: rest))) := by
  subst hz
  obtain ⟨fs, hr, hrun, hended, hW, hsame⟩ := X.leave (v := some (.int (nar t z))) (fun h => by rw [hret] at h; cases h) hlocks
  exact ⟨_, retN X hx hret ht hd hr, _, hrun, hended, _, _, rfl, hQ, ⟨_, rfl⟩, hW, hsame.mono hc hs⟩
theorem retGV {pc : Nat} {Ls : Array Slot} {Q : Option Value → Heap → List Loc → Prop} {k n : Nat}
    (X : Stand p l e R s m args below meth c T locs cells slots) (hx : p.tables.exec = Jvm.exec) (hlocks : meth.locks = false) (hret : meth.sig.returnType = none)
    (hd : decode c.code pc = .ok (.return_, 1)) (hQ : Q none T.heap locs) (hc : cells ≤ k) (hs : slots ≤ n) : Go p e below (FinQ below s Q k n) (T.setTop (mkF m pc Ls [])) := by
  obtain ⟨fs, hr, hrun, hended, hW, hsame⟩ := X.leave (v := none) (fun _ => rfl) hlocks
  exact ⟨_, X.returnOut hx hret hd hr, _, hrun, hended, _, _, rfl, hQ, ⟨_, rfl⟩, hW, hsame.mono hc hs⟩
end New
/-- a body that writes nothing and returns r -/
def QP (r : Value) (h0 : Heap) (n0 : Nat) (v : Option Value) (h : Heap) (L : List Loc) : Prop := v = some r ∧ Fr n0 L ∧ h = h0
def QV (h0 : Heap) (n0 : Nat) (v : Option Value) (h : Heap) (L : List Loc) : Prop := v = none ∧ Fr n0 L ∧ h = h0
/-- a law: it returns r and writes nothing old -/
def QL (r : Value) (n0 : Nat) (v : Option Value) (h : Heap) (L : List Loc) : Prop := v = some r ∧ Fr n0 L
theorem remI (x y : Int32) : x - (x / y) * y = x % y := by
  rw [← Int32.toInt_inj, Int32.toInt_sub, Int32.toInt_mul, Int32.toInt_div, Int32.toInt_mod]
  have h := Int.tmod_add_mul_tdiv x.toInt y.toInt
  have r : (x.toInt.tmod y.toInt).bmod (2 ^ 32) = x.toInt.tmod y.toInt := by
    have := Int32.toInt_bmod (x % y)
    rwa [Int32.toInt_mod] at this
  rw [← r]
  have e : ((x.toInt.tdiv y.toInt).bmod (2 ^ 32) * y.toInt).bmod (2 ^ 32) = (x.toInt.tdiv y.toInt * y.toInt).bmod (2 ^ 32) := by simp
  rw [e, Int.sub_bmod_bmod]
  congr 1
  have := Int.mul_comm (x.toInt.tdiv y.toInt) y.toInt
  omega
theorem addI {x y : Int32} (h1 : -2147483648 ≤ x.toInt + y.toInt) (h2 : x.toInt + y.toInt < 2147483648) : (x + y).toInt = x.toInt + y.toInt := by have := c_iadd x y; have := rng32 (x + y); omega
theorem subI {x y : Int32} (h1 : -2147483648 ≤ x.toInt - y.toInt) (h2 : x.toInt - y.toInt < 2147483648) : (x - y).toInt = x.toInt - y.toInt := by have := c_isub x y; have := rng32 (x - y); omega
theorem mulI {x y : Int32} (h1 : -2147483648 ≤ x.toInt * y.toInt) (h2 : x.toInt * y.toInt < 2147483648) : (x * y).toInt = x.toInt * y.toInt := by have := c_imul x y; have := rng32 (x * y); omega
theorem addL {x y : Int64} (h1 : -9223372036854775808 ≤ x.toInt + y.toInt) (h2 : x.toInt + y.toInt < 9223372036854775808) : (x + y).toInt = x.toInt + y.toInt := by have := c_ladd x y; have := rng64 (x + y); omega
theorem subL {x y : Int64} (h1 : -9223372036854775808 ≤ x.toInt - y.toInt) (h2 : x.toInt - y.toInt < 9223372036854775808) : (x - y).toInt = x.toInt - y.toInt := by have := c_lsub x y; have := rng64 (x - y); omega
theorem mulL {x y : Int64} (h1 : -9223372036854775808 ≤ x.toInt * y.toInt) (h2 : x.toInt * y.toInt < 9223372036854775808) : (x * y).toInt = x.toInt * y.toInt := by have := c_lmul x y; have := rng64 (x * y); omega
theorem modI {x y : Int32} (d : Int) (hy : y.toInt = d) (hx : 0 ≤ x.toInt) : (x % y).toInt = x.toInt % d := by rw [Int32.toInt_mod, hy]; exact (tr _ _).1 hx
theorem modL {x y : Int64} (d : Int) (hy : y.toInt = d) (hx : 0 ≤ x.toInt) : (x % y).toInt = x.toInt % d := by rw [Int64.toInt_mod, hy]; exact (tr _ _).1 hx
end Jvm.OwnKit
namespace Jvm.Pilot.@@N@@
open Jvm Jvm.ClassFile Sem Op Lib Jvm.Free Jvm.Stand Jvm.LawKit Jvm.RoadKit Jvm.OwnKit Bundle Jvm.Pilot.@@N@@.Jvm.D
theorem d1_0 : decode prog_37_method_1_code 0 = .ok (.aload_n 0, 1) := by decide +kernel
theorem d1_1 : decode prog_37_method_1_code 1 = .ok (.invokespecial 1, 3) := by decide +kernel
theorem d1_4 : decode prog_37_method_1_code 4 = .ok (.aload_n 0, 1) := by decide +kernel
theorem d1_5 : decode prog_37_method_1_code 5 = .ok (.lload_n 1, 1) := by decide +kernel
theorem d1_6 : decode prog_37_method_1_code 6 = .ok (.putfield 7, 3) := by decide +kernel
theorem d1_9 : decode prog_37_method_1_code 9 = .ok (.return_, 1) := by decide +kernel
theorem ef_1 (m : MethodId) (a1 : Addr) (q2 : Int64) : entryFrame m #[(.ref a1), (.long q2)] 3 = mkF m 0 #[.val (.ref a1), .val (.long q2), .second] [] := by first | (simp [entryFrame, mkF, argsToLocals, Value.category]; done) | rfl
theorem pn_0 : plainName "com/example/hertzbid/hertzbid/SeededRandom" = true := by first | (simp [plainName, overriddenIn]; done) | decide +kernel
def Q1 (Z : State) (a1 : Addr) (q2 : Int64) (w_state_a1 : Int64) (h0 : Heap) (n0 : Nat) (v : Option Value) (h : Heap) (L : List Loc) : Prop := v = none ∧ Fr n0 L ∧ Keep h0 h [a1] ∧ Exa Z h a1 "com/example/hertzbid/hertzbid/SeededRandom" ∧ Fld Z h a1 "com/example/hertzbid/hertzbid/SeededRandom" "state" "J" (.long q2)
set_option maxRecDepth 65536 in
set_option maxHeartbeats 40000000 in
theorem rm1 (l : Launch) (Z : State) (a0 : Array Value) (hw : ∀ d ∈ tables_1, d.before a0 Z = true) (ws : List Jvm.Cond) (a1 : Addr) (q2 : Int64) (w_state_a1 : Int64) (h0 : Heap) (n0 : Nat) (Z0 : n0 ≤ h0.size) (E_a1 : Exa Z h0 a1 "com/example/hertzbid/hertzbid/SeededRandom") (F_state_a1 : Fld Z h0 a1 "com/example/hertzbid/hertzbid/SeededRandom" "state" "J" (.long w_state_a1)) (g_a1 : n0 ≤ a1) :
    MetFree l (⟨"com/example/hertzbid/hertzbid/SeededRandom", "<init>", "(J)V"⟩ : MethodName) (head1 (Jvm.Cond.code (⟨"com/example/hertzbid/hertzbid/SeededRandom", "<init>", "(J)V"⟩ : MethodName) prog_37_method_1_code 3 none :: ws) ({ frames := 1, cells := 0, slots := 0, locals := 12 } : Room)) (fun a U => a = #[(.ref a1), (.long q2)] ∧ Z.Warmed39 U.vm ∧ U.heap = h0) (fun _ _ _ _ _ => True) (fun _ U o U' => ∃ v L, o = .returned v ∧ Q1 Z a1 q2 w_state_a1 h0 n0 v U'.heap L ∧ FrameEnd U o U' L ({ frames := 1, cells := 0, slots := 0, locals := 12 } : Room).cells ({ frames := 1, cells := 0, slots := 0, locals := 12 } : Room).slots) := by
  refine MetFree.of_bodySF (plainFor_of_name pn_0) hisR ?_
  intro p e s m args below meth c s₁ Bd hml0 hP hK
  obtain ⟨rfl, hZ, hh⟩ := hP
  have hx := Bd.exec
  have hby := Bd.bytes
  have hml : c.maxLocals = 3 := hml0
  have hown : s.vm.findClass "com/example/hertzbid/hertzbid/SeededRandom" = some m.cls := findClass_of_methodNamed Bd.named
  have hnm := (name_of_methodNamed Bd.named Bd.method).1
  have X0 : Stand p l e ({ frames := 1, cells := 0, slots := 0, locals := 12 } : Room) s m #[(.ref a1), (.long q2)] below meth c s₁ [] 0 0 := Stand.of_body Bd
  have e0 : s₁.heap = h0 := by rw [← hh, Bd.state]; rfl
  have N0 := Fr.nil n0
  refine Go.done (Go.step (fun t k => castTop (ef_1 m a1 q2) k) ?_)
  have KK0 : Keep h0 h0 [a1] := Keep.refl _ _
  show Go p e below _ (s₁.setTop (mkF m 0 #[.val (.ref a1), .val (.long q2), .second] []))
  refine Go.step (fun t k => XS.aloadN X0.here hx rfl (hb hby d1_0) rfl rfl k) ?_
  show Go p e below _ (s₁.setTop (mkF m 1 #[.val (.ref a1), .val (.long q2), .second] [(.ref a1)]))
  obtain ⟨T3, X3, e3, st3⟩ := initO X0 hx hZ hown (hw _ (List.mem_of_getElem? (i := 6) rfl)) (hw _ (List.mem_of_getElem? (i := 7) rfl)) (hw _ (List.mem_of_getElem? (i := 8) rfl)) e0 (g := (mkF m 1 #[.val (.ref a1), .val (.long q2), .second] [(.ref a1)])) rfl (by rw [hml]; rfl) rfl (hb hby d1_1) (by decide) (W := 0) (by show 2 * 0 + _ ≤ _; exact Nat.le_of_eq rfl) (by decide)
  refine Go.step st3 ?_
  show Go p e below _ (T3.setTop (mkF m 4 #[.val (.ref a1), .val (.long q2), .second] []))
  refine Go.step (fun t k => XS.aloadN X3.here hx rfl (hb hby d1_4) rfl rfl k) ?_
  show Go p e below _ (T3.setTop (mkF m 5 #[.val (.ref a1), .val (.long q2), .second] [(.ref a1)]))
  refine Go.step (fun t k => XS.lloadN X3.here hx rfl (hb hby d1_5) rfl k) ?_
  show Go p e below _ (T3.setTop (mkF m 6 #[.val (.ref a1), .val (.long q2), .second] [(.long q2), (.ref a1)]))
  obtain ⟨T4, h4, X4, e4, W4, st4⟩ := putF X3 hx hZ hown (host := "") (Or.inl (hw _ (List.mem_of_getElem? (i := 9) rfl))) Via.refl e3 F_state_a1 E_a1 (Or.inl (hw _ (List.mem_of_getElem? (i := 10) rfl))) (hw _ (List.mem_of_getElem? (i := 1) rfl)) (ty := .long) (by decide) rfl rfl (g := (mkF m 6 #[.val (.ref a1), .val (.long q2), .second] [(.long q2), (.ref a1)])) rfl rfl (hb hby d1_6)
  refine Go.step st4 ?_
  have N4 := Fr.snoc X4 N0 g_a1
  have E_a1_4 := E_a1.wr W4
  have Z4 := Nat.le_trans Z0 (Keep.of_wr W4).1
  have KK4 : Keep h0 h4 [a1] := KK0.wr W4 (Or.inl (by simp))
  have F_state_a1_4 := F_state_a1.same W4
  show Go p e below _ (T4.setTop (mkF m 9 #[.val (.ref a1), .val (.long q2), .second] []))
  refine retGV X4 hx Bd.notSynchronized Bd.returns (hb hby d1_9) ?_ (by decide) (by decide)
  show Q1 Z a1 q2 w_state_a1 h0 n0 _ T4.heap _
  rw [e4]
  exact ⟨rfl, N4, KK4, E_a1_4, F_state_a1_4⟩
theorem d3_0 : decode prog_37_method_2_code 0 = .ok (.aload_n 0, 1) := by decide +kernel
theorem d3_1 : decode prog_37_method_2_code 1 = .ok (.dup, 1) := by decide +kernel
theorem d3_2 : decode prog_37_method_2_code 2 = .ok (.getfield 7, 3) := by decide +kernel
theorem d3_5 : decode prog_37_method_2_code 5 = .ok (.ldc2_w 13, 3) := by decide +kernel
theorem d3_8 : decode prog_37_method_2_code 8 = .ok (.ladd, 1) := by decide +kernel
theorem d3_9 : decode prog_37_method_2_code 9 = .ok (.putfield 7, 3) := by decide +kernel
theorem d3_12 : decode prog_37_method_2_code 12 = .ok (.aload_n 0, 1) := by decide +kernel
theorem d3_13 : decode prog_37_method_2_code 13 = .ok (.getfield 7, 3) := by decide +kernel
theorem d3_16 : decode prog_37_method_2_code 16 = .ok (.aload_n 0, 1) := by decide +kernel
theorem d3_17 : decode prog_37_method_2_code 17 = .ok (.getfield 7, 3) := by decide +kernel
theorem d3_20 : decode prog_37_method_2_code 20 = .ok (.bipush 30, 2) := by decide +kernel
theorem d3_22 : decode prog_37_method_2_code 22 = .ok (.lushr, 1) := by decide +kernel
theorem d3_23 : decode prog_37_method_2_code 23 = .ok (.lxor, 1) := by decide +kernel
theorem d3_24 : decode prog_37_method_2_code 24 = .ok (.ldc2_w 15, 3) := by decide +kernel
theorem d3_27 : decode prog_37_method_2_code 27 = .ok (.lmul, 1) := by decide +kernel
theorem d3_28 : decode prog_37_method_2_code 28 = .ok (.lstore_n 1, 1) := by decide +kernel
theorem d3_29 : decode prog_37_method_2_code 29 = .ok (.lload_n 1, 1) := by decide +kernel
theorem d3_30 : decode prog_37_method_2_code 30 = .ok (.lload_n 1, 1) := by decide +kernel
theorem d3_31 : decode prog_37_method_2_code 31 = .ok (.bipush 27, 2) := by decide +kernel
theorem d3_33 : decode prog_37_method_2_code 33 = .ok (.lushr, 1) := by decide +kernel
theorem d3_34 : decode prog_37_method_2_code 34 = .ok (.lxor, 1) := by decide +kernel
theorem d3_35 : decode prog_37_method_2_code 35 = .ok (.ldc2_w 17, 3) := by decide +kernel
theorem d3_38 : decode prog_37_method_2_code 38 = .ok (.lmul, 1) := by decide +kernel
theorem d3_39 : decode prog_37_method_2_code 39 = .ok (.lstore_n 1, 1) := by decide +kernel
theorem d3_40 : decode prog_37_method_2_code 40 = .ok (.lload_n 1, 1) := by decide +kernel
theorem d3_41 : decode prog_37_method_2_code 41 = .ok (.lload_n 1, 1) := by decide +kernel
theorem d3_42 : decode prog_37_method_2_code 42 = .ok (.bipush 31, 2) := by decide +kernel
theorem d3_44 : decode prog_37_method_2_code 44 = .ok (.lushr, 1) := by decide +kernel
theorem d3_45 : decode prog_37_method_2_code 45 = .ok (.lxor, 1) := by decide +kernel
theorem d3_46 : decode prog_37_method_2_code 46 = .ok (.lreturn, 1) := by decide +kernel
theorem ef_3 (m : MethodId) (a1 : Addr) : entryFrame m #[(.ref a1)] 3 = mkF m 0 #[.val (.ref a1), .unset, .unset] [] := by first | (simp [entryFrame, mkF, argsToLocals, Value.category]; done) | rfl
def f3 (w_state_a1 : Int64) : Int64 := ((((((w_state_a1 + (-7046029254386353131 : Int64)) ^^^ (((w_state_a1 + (-7046029254386353131 : Int64)).toUInt64 >>> ((30 : Int32) &&& 0x3f).toInt64.toUInt64).toInt64)) * (-4658895280553007687 : Int64)) ^^^ (((((w_state_a1 + (-7046029254386353131 : Int64)) ^^^ (((w_state_a1 + (-7046029254386353131 : Int64)).toUInt64 >>> ((30 : Int32) &&& 0x3f).toInt64.toUInt64).toInt64)) * (-4658895280553007687 : Int64)).toUInt64 >>> ((27 : Int32) &&& 0x3f).toInt64.toUInt64).toInt64)) * (-7723592293110705685 : Int64)) ^^^ (((((((w_state_a1 + (-7046029254386353131 : Int64)) ^^^ (((w_state_a1 + (-7046029254386353131 : Int64)).toUInt64 >>> ((30 : Int32) &&& 0x3f).toInt64.toUInt64).toInt64)) * (-4658895280553007687 : Int64)) ^^^ (((((w_state_a1 + (-7046029254386353131 : Int64)) ^^^ (((w_state_a1 + (-7046029254386353131 : Int64)).toUInt64 >>> ((30 : Int32) &&& 0x3f).toInt64.toUInt64).toInt64)) * (-4658895280553007687 : Int64)).toUInt64 >>> ((27 : Int32) &&& 0x3f).toInt64.toUInt64).toInt64)) * (-7723592293110705685 : Int64)).toUInt64 >>> ((31 : Int32) &&& 0x3f).toInt64.toUInt64).toInt64))
def f3_state (w_state_a1 : Int64) : Int64 := (w_state_a1 + (-7046029254386353131 : Int64))
def Q3 (Z : State) (a1 : Addr) (w_state_a1 : Int64) (h0 : Heap) (n0 : Nat) (v : Option Value) (h : Heap) (L : List Loc) : Prop := v = some (.long (f3 w_state_a1)) ∧ Fr n0 L ∧ Keep h0 h [a1] ∧ Fld Z h a1 "com/example/hertzbid/hertzbid/SeededRandom" "state" "J" (.long (f3_state w_state_a1)) ∧ Exa Z h a1 "com/example/hertzbid/hertzbid/SeededRandom"
set_option maxRecDepth 65536 in
set_option maxHeartbeats 40000000 in
theorem rm3 (l : Launch) (Z : State) (a0 : Array Value) (hw : ∀ d ∈ tables_1, d.before a0 Z = true) (ws : List Jvm.Cond) (a1 : Addr) (w_state_a1 : Int64) (h0 : Heap) (n0 : Nat) (Z0 : n0 ≤ h0.size) (F_state_a1 : Fld Z h0 a1 "com/example/hertzbid/hertzbid/SeededRandom" "state" "J" (.long w_state_a1)) (E_a1 : Exa Z h0 a1 "com/example/hertzbid/hertzbid/SeededRandom") (g_a1 : n0 ≤ a1) :
    MetFree l (⟨"com/example/hertzbid/hertzbid/SeededRandom", "nextLong", "()J"⟩ : MethodName) (head1 (Jvm.Cond.code (⟨"com/example/hertzbid/hertzbid/SeededRandom", "nextLong", "()J"⟩ : MethodName) prog_37_method_2_code 3 (some .long) :: ws) ({ frames := 0, cells := 0, slots := 0, locals := 0 } : Room)) (fun a U => a = #[(.ref a1)] ∧ Z.Warmed39 U.vm ∧ U.heap = h0) (fun _ _ _ _ _ => True) (fun _ U o U' => ∃ v L, o = .returned v ∧ Q3 Z a1 w_state_a1 h0 n0 v U'.heap L ∧ FrameEnd U o U' L ({ frames := 0, cells := 0, slots := 0, locals := 0 } : Room).cells ({ frames := 0, cells := 0, slots := 0, locals := 0 } : Room).slots) := by
  refine MetFree.of_bodySF (plainFor_of_name pn_0) hisR ?_
  intro p e s m args below meth c s₁ Bd hml0 hP hK
  obtain ⟨rfl, hZ, hh⟩ := hP
  have hx := Bd.exec
  have hby := Bd.bytes
  have hml : c.maxLocals = 3 := hml0
  have hown : s.vm.findClass "com/example/hertzbid/hertzbid/SeededRandom" = some m.cls := findClass_of_methodNamed Bd.named
  have hnm := (name_of_methodNamed Bd.named Bd.method).1
  have X0 : Stand p l e ({ frames := 0, cells := 0, slots := 0, locals := 0 } : Room) s m #[(.ref a1)] below meth c s₁ [] 0 0 := Stand.of_body Bd
  have e0 : s₁.heap = h0 := by rw [← hh, Bd.state]; rfl
  have N0 := Fr.nil n0
  refine Go.done (Go.step (fun t k => castTop (ef_3 m a1) k) ?_)
  have KK0 : Keep h0 h0 [a1] := Keep.refl _ _
  show Go p e below _ (s₁.setTop (mkF m 0 #[.val (.ref a1), .unset, .unset] []))
  refine Go.step (fun t k => XS.aloadN X0.here hx rfl (hb hby d3_0) rfl rfl k) ?_
  show Go p e below _ (s₁.setTop (mkF m 1 #[.val (.ref a1), .unset, .unset] [(.ref a1)]))
  refine Go.step (fun t k => XS.dup X0.here hx rfl (hb hby d3_1) rfl rfl k) ?_
  show Go p e below _ (s₁.setTop (mkF m 2 #[.val (.ref a1), .unset, .unset] [(.ref a1), (.ref a1)]))
  obtain ⟨T2, X2, e2, st2⟩ := getF X0 hx hZ hown (host := "") (Or.inl (hw _ (List.mem_of_getElem? (i := 9) rfl))) Via.refl e0 F_state_a1 (g := (mkF m 2 #[.val (.ref a1), .unset, .unset] [(.ref a1), (.ref a1)])) rfl rfl (hb hby d3_2)
  refine Go.step st2 ?_
  show Go p e below _ (T2.setTop (mkF m 5 #[.val (.ref a1), .unset, .unset] [(.long w_state_a1), (.ref a1)]))
  refine Go.step (X2.ldc2Long hx hown (mvT hZ (hw _ (List.mem_of_getElem? (i := 16) rfl))) (g := (mkF m 5 #[.val (.ref a1), .unset, .unset] [(.long w_state_a1), (.ref a1)])) rfl (hb hby d3_5)) ?_
  show Go p e below _ (T2.setTop (mkF m 8 #[.val (.ref a1), .unset, .unset] [(.long (-7046029254386353131 : Int64)), (.long w_state_a1), (.ref a1)]))
  refine Go.step (fun t k => XS.ladd X2.here hx rfl (hb hby d3_8) rfl k) ?_
  show Go p e below _ (T2.setTop (mkF m 9 #[.val (.ref a1), .unset, .unset] [(.long (w_state_a1 + (-7046029254386353131 : Int64))), (.ref a1)]))
  obtain ⟨T3, h3, X3, e3, W3, st3⟩ := putF X2 hx hZ hown (host := "") (Or.inl (hw _ (List.mem_of_getElem? (i := 9) rfl))) Via.refl e2 F_state_a1 E_a1 (Or.inl (hw _ (List.mem_of_getElem? (i := 10) rfl))) (hw _ (List.mem_of_getElem? (i := 1) rfl)) (ty := .long) (by decide) rfl rfl (g := (mkF m 9 #[.val (.ref a1), .unset, .unset] [(.long (w_state_a1 + (-7046029254386353131 : Int64))), (.ref a1)])) rfl rfl (hb hby d3_9)
  refine Go.step st3 ?_
  have N3 := Fr.snoc X3 N0 g_a1
  have E_a1_3 := E_a1.wr W3
  have Z3 := Nat.le_trans Z0 (Keep.of_wr W3).1
  have KK3 : Keep h0 h3 [a1] := KK0.wr W3 (Or.inl (by simp))
  have F_state_a1_3 := F_state_a1.same W3
  show Go p e below _ (T3.setTop (mkF m 12 #[.val (.ref a1), .unset, .unset] []))
  refine Go.step (fun t k => XS.aloadN X3.here hx rfl (hb hby d3_12) rfl rfl k) ?_
  show Go p e below _ (T3.setTop (mkF m 13 #[.val (.ref a1), .unset, .unset] [(.ref a1)]))
  obtain ⟨T4, X4, e4, st4⟩ := getF X3 hx hZ hown (host := "") (Or.inl (hw _ (List.mem_of_getElem? (i := 9) rfl))) Via.refl e3 F_state_a1_3 (g := (mkF m 13 #[.val (.ref a1), .unset, .unset] [(.ref a1)])) rfl rfl (hb hby d3_13)
  refine Go.step st4 ?_
  show Go p e below _ (T4.setTop (mkF m 16 #[.val (.ref a1), .unset, .unset] [(.long (w_state_a1 + (-7046029254386353131 : Int64)))]))
  refine Go.step (fun t k => XS.aloadN X4.here hx rfl (hb hby d3_16) rfl rfl k) ?_
  show Go p e below _ (T4.setTop (mkF m 17 #[.val (.ref a1), .unset, .unset] [(.ref a1), (.long (w_state_a1 + (-7046029254386353131 : Int64)))]))
  obtain ⟨T5, X5, e5, st5⟩ := getF X4 hx hZ hown (host := "") (Or.inl (hw _ (List.mem_of_getElem? (i := 9) rfl))) Via.refl e4 F_state_a1_3 (g := (mkF m 17 #[.val (.ref a1), .unset, .unset] [(.ref a1), (.long (w_state_a1 + (-7046029254386353131 : Int64)))])) rfl rfl (hb hby d3_17)
  refine Go.step st5 ?_
  show Go p e below _ (T5.setTop (mkF m 20 #[.val (.ref a1), .unset, .unset] [(.long (w_state_a1 + (-7046029254386353131 : Int64))), (.long (w_state_a1 + (-7046029254386353131 : Int64)))]))
  refine Go.step (fun t k => XS.bipush X5.here hx rfl (hb hby d3_20)  k) ?_
  show Go p e below _ (T5.setTop (mkF m 22 #[.val (.ref a1), .unset, .unset] [(.int (30 : Int32)), (.long (w_state_a1 + (-7046029254386353131 : Int64))), (.long (w_state_a1 + (-7046029254386353131 : Int64)))]))
  refine Go.step (fun t k => XS.lushr X5.here hx rfl (hb hby d3_22) rfl k) ?_
  show Go p e below _ (T5.setTop (mkF m 23 #[.val (.ref a1), .unset, .unset] [(.long (((w_state_a1 + (-7046029254386353131 : Int64)).toUInt64 >>> ((30 : Int32) &&& 0x3f).toInt64.toUInt64).toInt64)), (.long (w_state_a1 + (-7046029254386353131 : Int64)))]))
  refine Go.step (fun t k => XS.lxor X5.here hx rfl (hb hby d3_23) rfl k) ?_
  show Go p e below _ (T5.setTop (mkF m 24 #[.val (.ref a1), .unset, .unset] [(.long ((w_state_a1 + (-7046029254386353131 : Int64)) ^^^ (((w_state_a1 + (-7046029254386353131 : Int64)).toUInt64 >>> ((30 : Int32) &&& 0x3f).toInt64.toUInt64).toInt64)))]))
  refine Go.step (X5.ldc2Long hx hown (mvT hZ (hw _ (List.mem_of_getElem? (i := 17) rfl))) (g := (mkF m 24 #[.val (.ref a1), .unset, .unset] [(.long ((w_state_a1 + (-7046029254386353131 : Int64)) ^^^ (((w_state_a1 + (-7046029254386353131 : Int64)).toUInt64 >>> ((30 : Int32) &&& 0x3f).toInt64.toUInt64).toInt64)))])) rfl (hb hby d3_24)) ?_
  show Go p e below _ (T5.setTop (mkF m 27 #[.val (.ref a1), .unset, .unset] [(.long (-4658895280553007687 : Int64)), (.long ((w_state_a1 + (-7046029254386353131 : Int64)) ^^^ (((w_state_a1 + (-7046029254386353131 : Int64)).toUInt64 >>> ((30 : Int32) &&& 0x3f).toInt64.toUInt64).toInt64)))]))
  refine Go.step (fun t k => XS.lmul X5.here hx rfl (hb hby d3_27) rfl k) ?_
  show Go p e below _ (T5.setTop (mkF m 28 #[.val (.ref a1), .unset, .unset] [(.long (((w_state_a1 + (-7046029254386353131 : Int64)) ^^^ (((w_state_a1 + (-7046029254386353131 : Int64)).toUInt64 >>> ((30 : Int32) &&& 0x3f).toInt64.toUInt64).toInt64)) * (-4658895280553007687 : Int64)))]))
  obtain ⟨v6, hv6⟩ : ∃ z : Int64, z = (((w_state_a1 + (-7046029254386353131 : Int64)) ^^^ (((w_state_a1 + (-7046029254386353131 : Int64)).toUInt64 >>> ((30 : Int32) &&& 0x3f).toInt64.toUInt64).toInt64)) * (-4658895280553007687 : Int64)) := ⟨_, rfl⟩
  rw [← hv6]
  show Go p e below _ (T5.setTop (mkF m 28 #[.val (.ref a1), .unset, .unset] [(.long v6)]))
  refine Go.step (fun t k => XS.lstoreN X5.here hx rfl (hb hby d3_28) rfl (l' := #[.val (.ref a1), .val (.long v6), .second]) rfl k) ?_
  show Go p e below _ (T5.setTop (mkF m 29 #[.val (.ref a1), .val (.long v6), .second] []))
  refine Go.step (fun t k => XS.lloadN X5.here hx rfl (hb hby d3_29) rfl k) ?_
  show Go p e below _ (T5.setTop (mkF m 30 #[.val (.ref a1), .val (.long v6), .second] [(.long v6)]))
  refine Go.step (fun t k => XS.lloadN X5.here hx rfl (hb hby d3_30) rfl k) ?_
  show Go p e below _ (T5.setTop (mkF m 31 #[.val (.ref a1), .val (.long v6), .second] [(.long v6), (.long v6)]))
  refine Go.step (fun t k => XS.bipush X5.here hx rfl (hb hby d3_31)  k) ?_
  show Go p e below _ (T5.setTop (mkF m 33 #[.val (.ref a1), .val (.long v6), .second] [(.int (27 : Int32)), (.long v6), (.long v6)]))
  refine Go.step (fun t k => XS.lushr X5.here hx rfl (hb hby d3_33) rfl k) ?_
  show Go p e below _ (T5.setTop (mkF m 34 #[.val (.ref a1), .val (.long v6), .second] [(.long ((v6.toUInt64 >>> ((27 : Int32) &&& 0x3f).toInt64.toUInt64).toInt64)), (.long v6)]))
  refine Go.step (fun t k => XS.lxor X5.here hx rfl (hb hby d3_34) rfl k) ?_
  show Go p e below _ (T5.setTop (mkF m 35 #[.val (.ref a1), .val (.long v6), .second] [(.long (v6 ^^^ ((v6.toUInt64 >>> ((27 : Int32) &&& 0x3f).toInt64.toUInt64).toInt64)))]))
  refine Go.step (X5.ldc2Long hx hown (mvT hZ (hw _ (List.mem_of_getElem? (i := 18) rfl))) (g := (mkF m 35 #[.val (.ref a1), .val (.long v6), .second] [(.long (v6 ^^^ ((v6.toUInt64 >>> ((27 : Int32) &&& 0x3f).toInt64.toUInt64).toInt64)))])) rfl (hb hby d3_35)) ?_
  show Go p e below _ (T5.setTop (mkF m 38 #[.val (.ref a1), .val (.long v6), .second] [(.long (-7723592293110705685 : Int64)), (.long (v6 ^^^ ((v6.toUInt64 >>> ((27 : Int32) &&& 0x3f).toInt64.toUInt64).toInt64)))]))
  refine Go.step (fun t k => XS.lmul X5.here hx rfl (hb hby d3_38) rfl k) ?_
  show Go p e below _ (T5.setTop (mkF m 39 #[.val (.ref a1), .val (.long v6), .second] [(.long ((v6 ^^^ ((v6.toUInt64 >>> ((27 : Int32) &&& 0x3f).toInt64.toUInt64).toInt64)) * (-7723592293110705685 : Int64)))]))
  obtain ⟨v7, hv7⟩ : ∃ z : Int64, z = ((v6 ^^^ ((v6.toUInt64 >>> ((27 : Int32) &&& 0x3f).toInt64.toUInt64).toInt64)) * (-7723592293110705685 : Int64)) := ⟨_, rfl⟩
  rw [← hv7]
  show Go p e below _ (T5.setTop (mkF m 39 #[.val (.ref a1), .val (.long v6), .second] [(.long v7)]))
  refine Go.step (fun t k => XS.lstoreN X5.here hx rfl (hb hby d3_39) rfl (l' := #[.val (.ref a1), .val (.long v7), .second]) rfl k) ?_
  show Go p e below _ (T5.setTop (mkF m 40 #[.val (.ref a1), .val (.long v7), .second] []))
  refine Go.step (fun t k => XS.lloadN X5.here hx rfl (hb hby d3_40) rfl k) ?_
  show Go p e below _ (T5.setTop (mkF m 41 #[.val (.ref a1), .val (.long v7), .second] [(.long v7)]))
  refine Go.step (fun t k => XS.lloadN X5.here hx rfl (hb hby d3_41) rfl k) ?_
  show Go p e below _ (T5.setTop (mkF m 42 #[.val (.ref a1), .val (.long v7), .second] [(.long v7), (.long v7)]))
  refine Go.step (fun t k => XS.bipush X5.here hx rfl (hb hby d3_42)  k) ?_
  show Go p e below _ (T5.setTop (mkF m 44 #[.val (.ref a1), .val (.long v7), .second] [(.int (31 : Int32)), (.long v7), (.long v7)]))
  refine Go.step (fun t k => XS.lushr X5.here hx rfl (hb hby d3_44) rfl k) ?_
  show Go p e below _ (T5.setTop (mkF m 45 #[.val (.ref a1), .val (.long v7), .second] [(.long ((v7.toUInt64 >>> ((31 : Int32) &&& 0x3f).toInt64.toUInt64).toInt64)), (.long v7)]))
  refine Go.step (fun t k => XS.lxor X5.here hx rfl (hb hby d3_45) rfl k) ?_
  show Go p e below _ (T5.setTop (mkF m 46 #[.val (.ref a1), .val (.long v7), .second] [(.long (v7 ^^^ ((v7.toUInt64 >>> ((31 : Int32) &&& 0x3f).toInt64.toUInt64).toInt64)))]))
  subst hv7
  subst hv6
  refine retGJ X5 hx Bd.notSynchronized Bd.returns (hb hby d3_46) ?_ (by decide) (by decide)
  show Q3 Z a1 w_state_a1 h0 n0 _ T5.heap _
  rw [e5]
  exact ⟨rfl, N3, KK3, F_state_a1_3, E_a1_3⟩
theorem d5_0 : decode method_2_code 0 = .ok (.lload_n 0, 1) := by decide +kernel
theorem d5_1 : decode method_2_code 1 = .ok (.lstore_n 2, 1) := by decide +kernel
theorem d5_2 : decode method_2_code 2 = .ok (.lload_n 2, 1) := by decide +kernel
theorem d5_3 : decode method_2_code 3 = .ok (.ldc2_w 7, 3) := by decide +kernel
theorem d5_6 : decode method_2_code 6 = .ok (.lload_n 0, 1) := by decide +kernel
theorem d5_7 : decode method_2_code 7 = .ok (.lload_n 2, 1) := by decide +kernel
theorem d5_8 : decode method_2_code 8 = .ok (.lmul, 1) := by decide +kernel
theorem d5_9 : decode method_2_code 9 = .ok (.lsub, 1) := by decide +kernel
theorem d5_10 : decode method_2_code 10 = .ok (.lmul, 1) := by decide +kernel
theorem d5_11 : decode method_2_code 11 = .ok (.lstore_n 2, 1) := by decide +kernel
theorem d5_12 : decode method_2_code 12 = .ok (.lload_n 2, 1) := by decide +kernel
theorem d5_13 : decode method_2_code 13 = .ok (.ldc2_w 7, 3) := by decide +kernel
theorem d5_16 : decode method_2_code 16 = .ok (.lload_n 0, 1) := by decide +kernel
theorem d5_17 : decode method_2_code 17 = .ok (.lload_n 2, 1) := by decide +kernel
theorem d5_18 : decode method_2_code 18 = .ok (.lmul, 1) := by decide +kernel
theorem d5_19 : decode method_2_code 19 = .ok (.lsub, 1) := by decide +kernel
theorem d5_20 : decode method_2_code 20 = .ok (.lmul, 1) := by decide +kernel
theorem d5_21 : decode method_2_code 21 = .ok (.lstore_n 2, 1) := by decide +kernel
theorem d5_22 : decode method_2_code 22 = .ok (.lload_n 2, 1) := by decide +kernel
theorem d5_23 : decode method_2_code 23 = .ok (.ldc2_w 7, 3) := by decide +kernel
theorem d5_26 : decode method_2_code 26 = .ok (.lload_n 0, 1) := by decide +kernel
theorem d5_27 : decode method_2_code 27 = .ok (.lload_n 2, 1) := by decide +kernel
theorem d5_28 : decode method_2_code 28 = .ok (.lmul, 1) := by decide +kernel
theorem d5_29 : decode method_2_code 29 = .ok (.lsub, 1) := by decide +kernel
theorem d5_30 : decode method_2_code 30 = .ok (.lmul, 1) := by decide +kernel
theorem d5_31 : decode method_2_code 31 = .ok (.lstore_n 2, 1) := by decide +kernel
theorem d5_32 : decode method_2_code 32 = .ok (.lload_n 2, 1) := by decide +kernel
theorem d5_33 : decode method_2_code 33 = .ok (.ldc2_w 7, 3) := by decide +kernel
theorem d5_36 : decode method_2_code 36 = .ok (.lload_n 0, 1) := by decide +kernel
theorem d5_37 : decode method_2_code 37 = .ok (.lload_n 2, 1) := by decide +kernel
theorem d5_38 : decode method_2_code 38 = .ok (.lmul, 1) := by decide +kernel
theorem d5_39 : decode method_2_code 39 = .ok (.lsub, 1) := by decide +kernel
theorem d5_40 : decode method_2_code 40 = .ok (.lmul, 1) := by decide +kernel
theorem d5_41 : decode method_2_code 41 = .ok (.lstore_n 2, 1) := by decide +kernel
theorem d5_42 : decode method_2_code 42 = .ok (.lload_n 2, 1) := by decide +kernel
theorem d5_43 : decode method_2_code 43 = .ok (.ldc2_w 7, 3) := by decide +kernel
theorem d5_46 : decode method_2_code 46 = .ok (.lload_n 0, 1) := by decide +kernel
theorem d5_47 : decode method_2_code 47 = .ok (.lload_n 2, 1) := by decide +kernel
theorem d5_48 : decode method_2_code 48 = .ok (.lmul, 1) := by decide +kernel
theorem d5_49 : decode method_2_code 49 = .ok (.lsub, 1) := by decide +kernel
theorem d5_50 : decode method_2_code 50 = .ok (.lmul, 1) := by decide +kernel
theorem d5_51 : decode method_2_code 51 = .ok (.lstore_n 2, 1) := by decide +kernel
theorem d5_52 : decode method_2_code 52 = .ok (.lload_n 2, 1) := by decide +kernel
theorem d5_53 : decode method_2_code 53 = .ok (.lreturn, 1) := by decide +kernel
theorem ef_5 (m : MethodId) (q1 : Int64) : entryFrame m #[(.long q1)] 4 = mkF m 0 #[.val (.long q1), .second, .unset, .unset] [] := by first | (simp [entryFrame, mkF, argsToLocals, Value.category]; done) | rfl
theorem pn_1 : plainName "com/example/hertzbid/hertzbid/SeededRandomNextLongPinLaw" = true := by first | (simp [plainName, overriddenIn]; done) | decide +kernel
def f5 (q1 : Int64) : Int64 := (((((q1 * ((2 : Int64) - (q1 * q1))) * ((2 : Int64) - (q1 * (q1 * ((2 : Int64) - (q1 * q1)))))) * ((2 : Int64) - (q1 * ((q1 * ((2 : Int64) - (q1 * q1))) * ((2 : Int64) - (q1 * (q1 * ((2 : Int64) - (q1 * q1))))))))) * ((2 : Int64) - (q1 * (((q1 * ((2 : Int64) - (q1 * q1))) * ((2 : Int64) - (q1 * (q1 * ((2 : Int64) - (q1 * q1)))))) * ((2 : Int64) - (q1 * ((q1 * ((2 : Int64) - (q1 * q1))) * ((2 : Int64) - (q1 * (q1 * ((2 : Int64) - (q1 * q1)))))))))))) * ((2 : Int64) - (q1 * ((((q1 * ((2 : Int64) - (q1 * q1))) * ((2 : Int64) - (q1 * (q1 * ((2 : Int64) - (q1 * q1)))))) * ((2 : Int64) - (q1 * ((q1 * ((2 : Int64) - (q1 * q1))) * ((2 : Int64) - (q1 * (q1 * ((2 : Int64) - (q1 * q1))))))))) * ((2 : Int64) - (q1 * (((q1 * ((2 : Int64) - (q1 * q1))) * ((2 : Int64) - (q1 * (q1 * ((2 : Int64) - (q1 * q1)))))) * ((2 : Int64) - (q1 * ((q1 * ((2 : Int64) - (q1 * q1))) * ((2 : Int64) - (q1 * (q1 * ((2 : Int64) - (q1 * q1)))))))))))))))
set_option maxRecDepth 65536 in
set_option maxHeartbeats 40000000 in
theorem rm5 (l : Launch) (Z : State) (a0 : Array Value) (hw : ∀ d ∈ tables_1, d.before a0 Z = true) (ws : List Jvm.Cond) (q1 : Int64) (h0 : Heap) (n0 : Nat) (Z0 : n0 ≤ h0.size) :
    MetFree l (⟨"com/example/hertzbid/hertzbid/SeededRandomNextLongPinLaw", "inverse", "(J)J"⟩ : MethodName) (head1 (Jvm.Cond.code (⟨"com/example/hertzbid/hertzbid/SeededRandomNextLongPinLaw", "inverse", "(J)J"⟩ : MethodName) method_2_code 4 (some .long) :: ws) ({ frames := 0, cells := 0, slots := 0, locals := 0 } : Room)) (fun a U => a = #[(.long q1)] ∧ Z.Warmed39 U.vm ∧ U.heap = h0) (fun _ _ _ _ _ => True) (fun _ U o U' => ∃ v L, o = .returned v ∧ QP (.long (f5 q1)) h0 n0 v U'.heap L ∧ FrameEnd U o U' L ({ frames := 0, cells := 0, slots := 0, locals := 0 } : Room).cells ({ frames := 0, cells := 0, slots := 0, locals := 0 } : Room).slots) := by
  refine MetFree.of_bodySF (plainFor_of_name pn_1) hisR ?_
  intro p e s m args below meth c s₁ Bd hml0 hP hK
  obtain ⟨rfl, hZ, hh⟩ := hP
  have hx := Bd.exec
  have hby := Bd.bytes
  have hml : c.maxLocals = 4 := hml0
  have hown : s.vm.findClass "com/example/hertzbid/hertzbid/SeededRandomNextLongPinLaw" = some m.cls := findClass_of_methodNamed Bd.named
  have hnm := (name_of_methodNamed Bd.named Bd.method).1
  have X0 : Stand p l e ({ frames := 0, cells := 0, slots := 0, locals := 0 } : Room) s m #[(.long q1)] below meth c s₁ [] 0 0 := Stand.of_body Bd
  have e0 : s₁.heap = h0 := by rw [← hh, Bd.state]; rfl
  have N0 := Fr.nil n0
  refine Go.done (Go.step (fun t k => castTop (ef_5 m q1) k) ?_)
  have KK0 : Keep h0 h0 [] := Keep.refl _ _
  show Go p e below _ (s₁.setTop (mkF m 0 #[.val (.long q1), .second, .unset, .unset] []))
  refine Go.step (fun t k => XS.lloadN X0.here hx rfl (hb hby d5_0) rfl k) ?_
  show Go p e below _ (s₁.setTop (mkF m 1 #[.val (.long q1), .second, .unset, .unset] [(.long q1)]))
  refine Go.step (fun t k => XS.lstoreN X0.here hx rfl (hb hby d5_1) rfl (l' := #[.val (.long q1), .second, .val (.long q1), .second]) rfl k) ?_
  show Go p e below _ (s₁.setTop (mkF m 2 #[.val (.long q1), .second, .val (.long q1), .second] []))
  refine Go.step (fun t k => XS.lloadN X0.here hx rfl (hb hby d5_2) rfl k) ?_
  show Go p e below _ (s₁.setTop (mkF m 3 #[.val (.long q1), .second, .val (.long q1), .second] [(.long q1)]))
  refine Go.step (X0.ldc2Long hx hown (mvT hZ (hw _ (List.mem_of_getElem? (i := 27) rfl))) (g := (mkF m 3 #[.val (.long q1), .second, .val (.long q1), .second] [(.long q1)])) rfl (hb hby d5_3)) ?_
  show Go p e below _ (s₁.setTop (mkF m 6 #[.val (.long q1), .second, .val (.long q1), .second] [(.long (2 : Int64)), (.long q1)]))
  refine Go.step (fun t k => XS.lloadN X0.here hx rfl (hb hby d5_6) rfl k) ?_
  show Go p e below _ (s₁.setTop (mkF m 7 #[.val (.long q1), .second, .val (.long q1), .second] [(.long q1), (.long (2 : Int64)), (.long q1)]))
  refine Go.step (fun t k => XS.lloadN X0.here hx rfl (hb hby d5_7) rfl k) ?_
  show Go p e below _ (s₁.setTop (mkF m 8 #[.val (.long q1), .second, .val (.long q1), .second] [(.long q1), (.long q1), (.long (2 : Int64)), (.long q1)]))
  refine Go.step (fun t k => XS.lmul X0.here hx rfl (hb hby d5_8) rfl k) ?_
  show Go p e below _ (s₁.setTop (mkF m 9 #[.val (.long q1), .second, .val (.long q1), .second] [(.long (q1 * q1)), (.long (2 : Int64)), (.long q1)]))
  refine Go.step (fun t k => XS.lsub X0.here hx rfl (hb hby d5_9) rfl k) ?_
  show Go p e below _ (s₁.setTop (mkF m 10 #[.val (.long q1), .second, .val (.long q1), .second] [(.long ((2 : Int64) - (q1 * q1))), (.long q1)]))
  refine Go.step (fun t k => XS.lmul X0.here hx rfl (hb hby d5_10) rfl k) ?_
  show Go p e below _ (s₁.setTop (mkF m 11 #[.val (.long q1), .second, .val (.long q1), .second] [(.long (q1 * ((2 : Int64) - (q1 * q1))))]))
  obtain ⟨v2, hv2⟩ : ∃ z : Int64, z = (q1 * ((2 : Int64) - (q1 * q1))) := ⟨_, rfl⟩
  rw [← hv2]
  show Go p e below _ (s₁.setTop (mkF m 11 #[.val (.long q1), .second, .val (.long q1), .second] [(.long v2)]))
  refine Go.step (fun t k => XS.lstoreN X0.here hx rfl (hb hby d5_11) rfl (l' := #[.val (.long q1), .second, .val (.long v2), .second]) rfl k) ?_
  show Go p e below _ (s₁.setTop (mkF m 12 #[.val (.long q1), .second, .val (.long v2), .second] []))
  refine Go.step (fun t k => XS.lloadN X0.here hx rfl (hb hby d5_12) rfl k) ?_
  show Go p e below _ (s₁.setTop (mkF m 13 #[.val (.long q1), .second, .val (.long v2), .second] [(.long v2)]))
  refine Go.step (X0.ldc2Long hx hown (mvT hZ (hw _ (List.mem_of_getElem? (i := 27) rfl))) (g := (mkF m 13 #[.val (.long q1), .second, .val (.long v2), .second] [(.long v2)])) rfl (hb hby d5_13)) ?_
  show Go p e below _ (s₁.setTop (mkF m 16 #[.val (.long q1), .second, .val (.long v2), .second] [(.long (2 : Int64)), (.long v2)]))
  refine Go.step (fun t k => XS.lloadN X0.here hx rfl (hb hby d5_16) rfl k) ?_
  show Go p e below _ (s₁.setTop (mkF m 17 #[.val (.long q1), .second, .val (.long v2), .second] [(.long q1), (.long (2 : Int64)), (.long v2)]))
  refine Go.step (fun t k => XS.lloadN X0.here hx rfl (hb hby d5_17) rfl k) ?_
  show Go p e below _ (s₁.setTop (mkF m 18 #[.val (.long q1), .second, .val (.long v2), .second] [(.long v2), (.long q1), (.long (2 : Int64)), (.long v2)]))
  refine Go.step (fun t k => XS.lmul X0.here hx rfl (hb hby d5_18) rfl k) ?_
  show Go p e below _ (s₁.setTop (mkF m 19 #[.val (.long q1), .second, .val (.long v2), .second] [(.long (q1 * v2)), (.long (2 : Int64)), (.long v2)]))
  refine Go.step (fun t k => XS.lsub X0.here hx rfl (hb hby d5_19) rfl k) ?_
  show Go p e below _ (s₁.setTop (mkF m 20 #[.val (.long q1), .second, .val (.long v2), .second] [(.long ((2 : Int64) - (q1 * v2))), (.long v2)]))
  refine Go.step (fun t k => XS.lmul X0.here hx rfl (hb hby d5_20) rfl k) ?_
  show Go p e below _ (s₁.setTop (mkF m 21 #[.val (.long q1), .second, .val (.long v2), .second] [(.long (v2 * ((2 : Int64) - (q1 * v2))))]))
  obtain ⟨v3, hv3⟩ : ∃ z : Int64, z = (v2 * ((2 : Int64) - (q1 * v2))) := ⟨_, rfl⟩
  rw [← hv3]
  show Go p e below _ (s₁.setTop (mkF m 21 #[.val (.long q1), .second, .val (.long v2), .second] [(.long v3)]))
  refine Go.step (fun t k => XS.lstoreN X0.here hx rfl (hb hby d5_21) rfl (l' := #[.val (.long q1), .second, .val (.long v3), .second]) rfl k) ?_
  show Go p e below _ (s₁.setTop (mkF m 22 #[.val (.long q1), .second, .val (.long v3), .second] []))
  refine Go.step (fun t k => XS.lloadN X0.here hx rfl (hb hby d5_22) rfl k) ?_
  show Go p e below _ (s₁.setTop (mkF m 23 #[.val (.long q1), .second, .val (.long v3), .second] [(.long v3)]))
  refine Go.step (X0.ldc2Long hx hown (mvT hZ (hw _ (List.mem_of_getElem? (i := 27) rfl))) (g := (mkF m 23 #[.val (.long q1), .second, .val (.long v3), .second] [(.long v3)])) rfl (hb hby d5_23)) ?_
  show Go p e below _ (s₁.setTop (mkF m 26 #[.val (.long q1), .second, .val (.long v3), .second] [(.long (2 : Int64)), (.long v3)]))
  refine Go.step (fun t k => XS.lloadN X0.here hx rfl (hb hby d5_26) rfl k) ?_
  show Go p e below _ (s₁.setTop (mkF m 27 #[.val (.long q1), .second, .val (.long v3), .second] [(.long q1), (.long (2 : Int64)), (.long v3)]))
  refine Go.step (fun t k => XS.lloadN X0.here hx rfl (hb hby d5_27) rfl k) ?_
  show Go p e below _ (s₁.setTop (mkF m 28 #[.val (.long q1), .second, .val (.long v3), .second] [(.long v3), (.long q1), (.long (2 : Int64)), (.long v3)]))
  refine Go.step (fun t k => XS.lmul X0.here hx rfl (hb hby d5_28) rfl k) ?_
  show Go p e below _ (s₁.setTop (mkF m 29 #[.val (.long q1), .second, .val (.long v3), .second] [(.long (q1 * v3)), (.long (2 : Int64)), (.long v3)]))
  refine Go.step (fun t k => XS.lsub X0.here hx rfl (hb hby d5_29) rfl k) ?_
  show Go p e below _ (s₁.setTop (mkF m 30 #[.val (.long q1), .second, .val (.long v3), .second] [(.long ((2 : Int64) - (q1 * v3))), (.long v3)]))
  refine Go.step (fun t k => XS.lmul X0.here hx rfl (hb hby d5_30) rfl k) ?_
  show Go p e below _ (s₁.setTop (mkF m 31 #[.val (.long q1), .second, .val (.long v3), .second] [(.long (v3 * ((2 : Int64) - (q1 * v3))))]))
  obtain ⟨v4, hv4⟩ : ∃ z : Int64, z = (v3 * ((2 : Int64) - (q1 * v3))) := ⟨_, rfl⟩
  rw [← hv4]
  show Go p e below _ (s₁.setTop (mkF m 31 #[.val (.long q1), .second, .val (.long v3), .second] [(.long v4)]))
  refine Go.step (fun t k => XS.lstoreN X0.here hx rfl (hb hby d5_31) rfl (l' := #[.val (.long q1), .second, .val (.long v4), .second]) rfl k) ?_
  show Go p e below _ (s₁.setTop (mkF m 32 #[.val (.long q1), .second, .val (.long v4), .second] []))
  refine Go.step (fun t k => XS.lloadN X0.here hx rfl (hb hby d5_32) rfl k) ?_
  show Go p e below _ (s₁.setTop (mkF m 33 #[.val (.long q1), .second, .val (.long v4), .second] [(.long v4)]))
  refine Go.step (X0.ldc2Long hx hown (mvT hZ (hw _ (List.mem_of_getElem? (i := 27) rfl))) (g := (mkF m 33 #[.val (.long q1), .second, .val (.long v4), .second] [(.long v4)])) rfl (hb hby d5_33)) ?_
  show Go p e below _ (s₁.setTop (mkF m 36 #[.val (.long q1), .second, .val (.long v4), .second] [(.long (2 : Int64)), (.long v4)]))
  refine Go.step (fun t k => XS.lloadN X0.here hx rfl (hb hby d5_36) rfl k) ?_
  show Go p e below _ (s₁.setTop (mkF m 37 #[.val (.long q1), .second, .val (.long v4), .second] [(.long q1), (.long (2 : Int64)), (.long v4)]))
  refine Go.step (fun t k => XS.lloadN X0.here hx rfl (hb hby d5_37) rfl k) ?_
  show Go p e below _ (s₁.setTop (mkF m 38 #[.val (.long q1), .second, .val (.long v4), .second] [(.long v4), (.long q1), (.long (2 : Int64)), (.long v4)]))
  refine Go.step (fun t k => XS.lmul X0.here hx rfl (hb hby d5_38) rfl k) ?_
  show Go p e below _ (s₁.setTop (mkF m 39 #[.val (.long q1), .second, .val (.long v4), .second] [(.long (q1 * v4)), (.long (2 : Int64)), (.long v4)]))
  refine Go.step (fun t k => XS.lsub X0.here hx rfl (hb hby d5_39) rfl k) ?_
  show Go p e below _ (s₁.setTop (mkF m 40 #[.val (.long q1), .second, .val (.long v4), .second] [(.long ((2 : Int64) - (q1 * v4))), (.long v4)]))
  refine Go.step (fun t k => XS.lmul X0.here hx rfl (hb hby d5_40) rfl k) ?_
  show Go p e below _ (s₁.setTop (mkF m 41 #[.val (.long q1), .second, .val (.long v4), .second] [(.long (v4 * ((2 : Int64) - (q1 * v4))))]))
  obtain ⟨v5, hv5⟩ : ∃ z : Int64, z = (v4 * ((2 : Int64) - (q1 * v4))) := ⟨_, rfl⟩
  rw [← hv5]
  show Go p e below _ (s₁.setTop (mkF m 41 #[.val (.long q1), .second, .val (.long v4), .second] [(.long v5)]))
  refine Go.step (fun t k => XS.lstoreN X0.here hx rfl (hb hby d5_41) rfl (l' := #[.val (.long q1), .second, .val (.long v5), .second]) rfl k) ?_
  show Go p e below _ (s₁.setTop (mkF m 42 #[.val (.long q1), .second, .val (.long v5), .second] []))
  refine Go.step (fun t k => XS.lloadN X0.here hx rfl (hb hby d5_42) rfl k) ?_
  show Go p e below _ (s₁.setTop (mkF m 43 #[.val (.long q1), .second, .val (.long v5), .second] [(.long v5)]))
  refine Go.step (X0.ldc2Long hx hown (mvT hZ (hw _ (List.mem_of_getElem? (i := 27) rfl))) (g := (mkF m 43 #[.val (.long q1), .second, .val (.long v5), .second] [(.long v5)])) rfl (hb hby d5_43)) ?_
  show Go p e below _ (s₁.setTop (mkF m 46 #[.val (.long q1), .second, .val (.long v5), .second] [(.long (2 : Int64)), (.long v5)]))
  refine Go.step (fun t k => XS.lloadN X0.here hx rfl (hb hby d5_46) rfl k) ?_
  show Go p e below _ (s₁.setTop (mkF m 47 #[.val (.long q1), .second, .val (.long v5), .second] [(.long q1), (.long (2 : Int64)), (.long v5)]))
  refine Go.step (fun t k => XS.lloadN X0.here hx rfl (hb hby d5_47) rfl k) ?_
  show Go p e below _ (s₁.setTop (mkF m 48 #[.val (.long q1), .second, .val (.long v5), .second] [(.long v5), (.long q1), (.long (2 : Int64)), (.long v5)]))
  refine Go.step (fun t k => XS.lmul X0.here hx rfl (hb hby d5_48) rfl k) ?_
  show Go p e below _ (s₁.setTop (mkF m 49 #[.val (.long q1), .second, .val (.long v5), .second] [(.long (q1 * v5)), (.long (2 : Int64)), (.long v5)]))
  refine Go.step (fun t k => XS.lsub X0.here hx rfl (hb hby d5_49) rfl k) ?_
  show Go p e below _ (s₁.setTop (mkF m 50 #[.val (.long q1), .second, .val (.long v5), .second] [(.long ((2 : Int64) - (q1 * v5))), (.long v5)]))
  refine Go.step (fun t k => XS.lmul X0.here hx rfl (hb hby d5_50) rfl k) ?_
  show Go p e below _ (s₁.setTop (mkF m 51 #[.val (.long q1), .second, .val (.long v5), .second] [(.long (v5 * ((2 : Int64) - (q1 * v5))))]))
  obtain ⟨v6, hv6⟩ : ∃ z : Int64, z = (v5 * ((2 : Int64) - (q1 * v5))) := ⟨_, rfl⟩
  rw [← hv6]
  show Go p e below _ (s₁.setTop (mkF m 51 #[.val (.long q1), .second, .val (.long v5), .second] [(.long v6)]))
  refine Go.step (fun t k => XS.lstoreN X0.here hx rfl (hb hby d5_51) rfl (l' := #[.val (.long q1), .second, .val (.long v6), .second]) rfl k) ?_
  show Go p e below _ (s₁.setTop (mkF m 52 #[.val (.long q1), .second, .val (.long v6), .second] []))
  refine Go.step (fun t k => XS.lloadN X0.here hx rfl (hb hby d5_52) rfl k) ?_
  show Go p e below _ (s₁.setTop (mkF m 53 #[.val (.long q1), .second, .val (.long v6), .second] [(.long v6)]))
  subst hv6
  subst hv5
  subst hv4
  subst hv3
  subst hv2
  exact retGJ X0 hx Bd.notSynchronized Bd.returns (hb hby d5_53) ⟨by first | rfl | (simp only [f5]; done) | (simp [f5]; done), N0, e0⟩ (by decide) (by decide)
theorem d4_0 : decode method_3_code 0 = .ok (.lload_n 0, 1) := by decide +kernel
theorem d4_1 : decode method_3_code 1 = .ok (.lload_n 0, 1) := by decide +kernel
theorem d4_2 : decode method_3_code 2 = .ok (.bipush 31, 2) := by decide +kernel
theorem d4_4 : decode method_3_code 4 = .ok (.lushr, 1) := by decide +kernel
theorem d4_5 : decode method_3_code 5 = .ok (.lxor, 1) := by decide +kernel
theorem d4_6 : decode method_3_code 6 = .ok (.lload_n 0, 1) := by decide +kernel
theorem d4_7 : decode method_3_code 7 = .ok (.bipush 62, 2) := by decide +kernel
theorem d4_9 : decode method_3_code 9 = .ok (.lushr, 1) := by decide +kernel
theorem d4_10 : decode method_3_code 10 = .ok (.lxor, 1) := by decide +kernel
theorem d4_11 : decode method_3_code 11 = .ok (.lstore_n 2, 1) := by decide +kernel
theorem d4_12 : decode method_3_code 12 = .ok (.lload_n 2, 1) := by decide +kernel
theorem d4_13 : decode method_3_code 13 = .ok (.ldc2_w 9, 3) := by decide +kernel
theorem d4_16 : decode method_3_code 16 = .ok (.invokestatic 11, 3) := by decide +kernel
theorem pd_0 : parseMethodDescriptor "(J)J" = some ⟨[.long], some .long⟩ := by decide +kernel
theorem d4_19 : decode method_3_code 19 = .ok (.lmul, 1) := by decide +kernel
theorem d4_20 : decode method_3_code 20 = .ok (.lstore 4, 2) := by decide +kernel
theorem d4_22 : decode method_3_code 22 = .ok (.lload 4, 2) := by decide +kernel
theorem d4_24 : decode method_3_code 24 = .ok (.lload 4, 2) := by decide +kernel
theorem d4_26 : decode method_3_code 26 = .ok (.bipush 27, 2) := by decide +kernel
theorem d4_28 : decode method_3_code 28 = .ok (.lushr, 1) := by decide +kernel
theorem d4_29 : decode method_3_code 29 = .ok (.lxor, 1) := by decide +kernel
theorem d4_30 : decode method_3_code 30 = .ok (.lload 4, 2) := by decide +kernel
theorem d4_32 : decode method_3_code 32 = .ok (.bipush 54, 2) := by decide +kernel
theorem d4_34 : decode method_3_code 34 = .ok (.lushr, 1) := by decide +kernel
theorem d4_35 : decode method_3_code 35 = .ok (.lxor, 1) := by decide +kernel
theorem d4_36 : decode method_3_code 36 = .ok (.lstore 6, 2) := by decide +kernel
theorem d4_38 : decode method_3_code 38 = .ok (.lload 6, 2) := by decide +kernel
theorem d4_40 : decode method_3_code 40 = .ok (.ldc2_w 17, 3) := by decide +kernel
theorem d4_43 : decode method_3_code 43 = .ok (.invokestatic 11, 3) := by decide +kernel
theorem d4_46 : decode method_3_code 46 = .ok (.lmul, 1) := by decide +kernel
theorem d4_47 : decode method_3_code 47 = .ok (.lstore 8, 2) := by decide +kernel
theorem d4_49 : decode method_3_code 49 = .ok (.lload 8, 2) := by decide +kernel
theorem d4_51 : decode method_3_code 51 = .ok (.lload 8, 2) := by decide +kernel
theorem d4_53 : decode method_3_code 53 = .ok (.bipush 30, 2) := by decide +kernel
theorem d4_55 : decode method_3_code 55 = .ok (.lushr, 1) := by decide +kernel
theorem d4_56 : decode method_3_code 56 = .ok (.lxor, 1) := by decide +kernel
theorem d4_57 : decode method_3_code 57 = .ok (.lload 8, 2) := by decide +kernel
theorem d4_59 : decode method_3_code 59 = .ok (.bipush 60, 2) := by decide +kernel
theorem d4_61 : decode method_3_code 61 = .ok (.lushr, 1) := by decide +kernel
theorem d4_62 : decode method_3_code 62 = .ok (.lxor, 1) := by decide +kernel
theorem d4_63 : decode method_3_code 63 = .ok (.lreturn, 1) := by decide +kernel
theorem ef_4 (m : MethodId) (q1 : Int64) : entryFrame m #[(.long q1)] 10 = mkF m 0 #[.val (.long q1), .second, .unset, .unset, .unset, .unset, .unset, .unset, .unset, .unset] [] := by first | (simp [entryFrame, mkF, argsToLocals, Value.category]; done) | rfl
def f4 (q1 : Int64) : Int64 := ((((((((q1 ^^^ ((q1.toUInt64 >>> ((31 : Int32) &&& 0x3f).toInt64.toUInt64).toInt64)) ^^^ ((q1.toUInt64 >>> ((62 : Int32) &&& 0x3f).toInt64.toUInt64).toInt64)) * (f5 (-7723592293110705685 : Int64))) ^^^ (((((q1 ^^^ ((q1.toUInt64 >>> ((31 : Int32) &&& 0x3f).toInt64.toUInt64).toInt64)) ^^^ ((q1.toUInt64 >>> ((62 : Int32) &&& 0x3f).toInt64.toUInt64).toInt64)) * (f5 (-7723592293110705685 : Int64))).toUInt64 >>> ((27 : Int32) &&& 0x3f).toInt64.toUInt64).toInt64)) ^^^ (((((q1 ^^^ ((q1.toUInt64 >>> ((31 : Int32) &&& 0x3f).toInt64.toUInt64).toInt64)) ^^^ ((q1.toUInt64 >>> ((62 : Int32) &&& 0x3f).toInt64.toUInt64).toInt64)) * (f5 (-7723592293110705685 : Int64))).toUInt64 >>> ((54 : Int32) &&& 0x3f).toInt64.toUInt64).toInt64)) * (f5 (-4658895280553007687 : Int64))) ^^^ ((((((((q1 ^^^ ((q1.toUInt64 >>> ((31 : Int32) &&& 0x3f).toInt64.toUInt64).toInt64)) ^^^ ((q1.toUInt64 >>> ((62 : Int32) &&& 0x3f).toInt64.toUInt64).toInt64)) * (f5 (-7723592293110705685 : Int64))) ^^^ (((((q1 ^^^ ((q1.toUInt64 >>> ((31 : Int32) &&& 0x3f).toInt64.toUInt64).toInt64)) ^^^ ((q1.toUInt64 >>> ((62 : Int32) &&& 0x3f).toInt64.toUInt64).toInt64)) * (f5 (-7723592293110705685 : Int64))).toUInt64 >>> ((27 : Int32) &&& 0x3f).toInt64.toUInt64).toInt64)) ^^^ (((((q1 ^^^ ((q1.toUInt64 >>> ((31 : Int32) &&& 0x3f).toInt64.toUInt64).toInt64)) ^^^ ((q1.toUInt64 >>> ((62 : Int32) &&& 0x3f).toInt64.toUInt64).toInt64)) * (f5 (-7723592293110705685 : Int64))).toUInt64 >>> ((54 : Int32) &&& 0x3f).toInt64.toUInt64).toInt64)) * (f5 (-4658895280553007687 : Int64))).toUInt64 >>> ((30 : Int32) &&& 0x3f).toInt64.toUInt64).toInt64)) ^^^ ((((((((q1 ^^^ ((q1.toUInt64 >>> ((31 : Int32) &&& 0x3f).toInt64.toUInt64).toInt64)) ^^^ ((q1.toUInt64 >>> ((62 : Int32) &&& 0x3f).toInt64.toUInt64).toInt64)) * (f5 (-7723592293110705685 : Int64))) ^^^ (((((q1 ^^^ ((q1.toUInt64 >>> ((31 : Int32) &&& 0x3f).toInt64.toUInt64).toInt64)) ^^^ ((q1.toUInt64 >>> ((62 : Int32) &&& 0x3f).toInt64.toUInt64).toInt64)) * (f5 (-7723592293110705685 : Int64))).toUInt64 >>> ((27 : Int32) &&& 0x3f).toInt64.toUInt64).toInt64)) ^^^ (((((q1 ^^^ ((q1.toUInt64 >>> ((31 : Int32) &&& 0x3f).toInt64.toUInt64).toInt64)) ^^^ ((q1.toUInt64 >>> ((62 : Int32) &&& 0x3f).toInt64.toUInt64).toInt64)) * (f5 (-7723592293110705685 : Int64))).toUInt64 >>> ((54 : Int32) &&& 0x3f).toInt64.toUInt64).toInt64)) * (f5 (-4658895280553007687 : Int64))).toUInt64 >>> ((60 : Int32) &&& 0x3f).toInt64.toUInt64).toInt64))
set_option maxRecDepth 65536 in
set_option maxHeartbeats 40000000 in
theorem rm4 (l : Launch) (Z : State) (a0 : Array Value) (hw : ∀ d ∈ tables_1, d.before a0 Z = true) (ws : List Jvm.Cond) (q1 : Int64) (h0 : Heap) (n0 : Nat) (Z0 : n0 ≤ h0.size) :
    MetFree l (⟨"com/example/hertzbid/hertzbid/SeededRandomNextLongPinLaw", "unmix", "(J)J"⟩ : MethodName) (head1 (Jvm.Cond.code (⟨"com/example/hertzbid/hertzbid/SeededRandomNextLongPinLaw", "unmix", "(J)J"⟩ : MethodName) method_3_code 10 (some .long) :: ws) ({ frames := 1, cells := 0, slots := 0, locals := 17 } : Room)) (fun a U => a = #[(.long q1)] ∧ Z.Warmed39 U.vm ∧ U.heap = h0) (fun _ _ _ _ _ => True) (fun _ U o U' => ∃ v L, o = .returned v ∧ QP (.long (f4 q1)) h0 n0 v U'.heap L ∧ FrameEnd U o U' L ({ frames := 1, cells := 0, slots := 0, locals := 17 } : Room).cells ({ frames := 1, cells := 0, slots := 0, locals := 17 } : Room).slots) := by
  refine MetFree.of_bodySF (plainFor_of_name pn_1) hisR ?_
  intro p e s m args below meth c s₁ Bd hml0 hP hK
  obtain ⟨rfl, hZ, hh⟩ := hP
  have hx := Bd.exec
  have hby := Bd.bytes
  have hml : c.maxLocals = 10 := hml0
  have hown : s.vm.findClass "com/example/hertzbid/hertzbid/SeededRandomNextLongPinLaw" = some m.cls := findClass_of_methodNamed Bd.named
  have hnm := (name_of_methodNamed Bd.named Bd.method).1
  have X0 : Stand p l e ({ frames := 1, cells := 0, slots := 0, locals := 17 } : Room) s m #[(.long q1)] below meth c s₁ [] 0 0 := Stand.of_body Bd
  have e0 : s₁.heap = h0 := by rw [← hh, Bd.state]; rfl
  have N0 := Fr.nil n0
  refine Go.done (Go.step (fun t k => castTop (ef_4 m q1) k) ?_)
  have KK0 : Keep h0 h0 [] := Keep.refl _ _
  show Go p e below _ (s₁.setTop (mkF m 0 #[.val (.long q1), .second, .unset, .unset, .unset, .unset, .unset, .unset, .unset, .unset] []))
  refine Go.step (fun t k => XS.lloadN X0.here hx rfl (hb hby d4_0) rfl k) ?_
  show Go p e below _ (s₁.setTop (mkF m 1 #[.val (.long q1), .second, .unset, .unset, .unset, .unset, .unset, .unset, .unset, .unset] [(.long q1)]))
  refine Go.step (fun t k => XS.lloadN X0.here hx rfl (hb hby d4_1) rfl k) ?_
  show Go p e below _ (s₁.setTop (mkF m 2 #[.val (.long q1), .second, .unset, .unset, .unset, .unset, .unset, .unset, .unset, .unset] [(.long q1), (.long q1)]))
  refine Go.step (fun t k => XS.bipush X0.here hx rfl (hb hby d4_2)  k) ?_
  show Go p e below _ (s₁.setTop (mkF m 4 #[.val (.long q1), .second, .unset, .unset, .unset, .unset, .unset, .unset, .unset, .unset] [(.int (31 : Int32)), (.long q1), (.long q1)]))
  refine Go.step (fun t k => XS.lushr X0.here hx rfl (hb hby d4_4) rfl k) ?_
  show Go p e below _ (s₁.setTop (mkF m 5 #[.val (.long q1), .second, .unset, .unset, .unset, .unset, .unset, .unset, .unset, .unset] [(.long ((q1.toUInt64 >>> ((31 : Int32) &&& 0x3f).toInt64.toUInt64).toInt64)), (.long q1)]))
  refine Go.step (fun t k => XS.lxor X0.here hx rfl (hb hby d4_5) rfl k) ?_
  show Go p e below _ (s₁.setTop (mkF m 6 #[.val (.long q1), .second, .unset, .unset, .unset, .unset, .unset, .unset, .unset, .unset] [(.long (q1 ^^^ ((q1.toUInt64 >>> ((31 : Int32) &&& 0x3f).toInt64.toUInt64).toInt64)))]))
  refine Go.step (fun t k => XS.lloadN X0.here hx rfl (hb hby d4_6) rfl k) ?_
  show Go p e below _ (s₁.setTop (mkF m 7 #[.val (.long q1), .second, .unset, .unset, .unset, .unset, .unset, .unset, .unset, .unset] [(.long q1), (.long (q1 ^^^ ((q1.toUInt64 >>> ((31 : Int32) &&& 0x3f).toInt64.toUInt64).toInt64)))]))
  refine Go.step (fun t k => XS.bipush X0.here hx rfl (hb hby d4_7)  k) ?_
  show Go p e below _ (s₁.setTop (mkF m 9 #[.val (.long q1), .second, .unset, .unset, .unset, .unset, .unset, .unset, .unset, .unset] [(.int (62 : Int32)), (.long q1), (.long (q1 ^^^ ((q1.toUInt64 >>> ((31 : Int32) &&& 0x3f).toInt64.toUInt64).toInt64)))]))
  refine Go.step (fun t k => XS.lushr X0.here hx rfl (hb hby d4_9) rfl k) ?_
  show Go p e below _ (s₁.setTop (mkF m 10 #[.val (.long q1), .second, .unset, .unset, .unset, .unset, .unset, .unset, .unset, .unset] [(.long ((q1.toUInt64 >>> ((62 : Int32) &&& 0x3f).toInt64.toUInt64).toInt64)), (.long (q1 ^^^ ((q1.toUInt64 >>> ((31 : Int32) &&& 0x3f).toInt64.toUInt64).toInt64)))]))
  refine Go.step (fun t k => XS.lxor X0.here hx rfl (hb hby d4_10) rfl k) ?_
  show Go p e below _ (s₁.setTop (mkF m 11 #[.val (.long q1), .second, .unset, .unset, .unset, .unset, .unset, .unset, .unset, .unset] [(.long ((q1 ^^^ ((q1.toUInt64 >>> ((31 : Int32) &&& 0x3f).toInt64.toUInt64).toInt64)) ^^^ ((q1.toUInt64 >>> ((62 : Int32) &&& 0x3f).toInt64.toUInt64).toInt64)))]))
  obtain ⟨v2, hv2⟩ : ∃ z : Int64, z = ((q1 ^^^ ((q1.toUInt64 >>> ((31 : Int32) &&& 0x3f).toInt64.toUInt64).toInt64)) ^^^ ((q1.toUInt64 >>> ((62 : Int32) &&& 0x3f).toInt64.toUInt64).toInt64)) := ⟨_, rfl⟩
  rw [← hv2]
  show Go p e below _ (s₁.setTop (mkF m 11 #[.val (.long q1), .second, .unset, .unset, .unset, .unset, .unset, .unset, .unset, .unset] [(.long v2)]))
  refine Go.step (fun t k => XS.lstoreN X0.here hx rfl (hb hby d4_11) rfl (l' := #[.val (.long q1), .second, .val (.long v2), .second, .unset, .unset, .unset, .unset, .unset, .unset]) rfl k) ?_
  show Go p e below _ (s₁.setTop (mkF m 12 #[.val (.long q1), .second, .val (.long v2), .second, .unset, .unset, .unset, .unset, .unset, .unset] []))
  refine Go.step (fun t k => XS.lloadN X0.here hx rfl (hb hby d4_12) rfl k) ?_
  show Go p e below _ (s₁.setTop (mkF m 13 #[.val (.long q1), .second, .val (.long v2), .second, .unset, .unset, .unset, .unset, .unset, .unset] [(.long v2)]))
  refine Go.step (X0.ldc2Long hx hown (mvT hZ (hw _ (List.mem_of_getElem? (i := 23) rfl))) (g := (mkF m 13 #[.val (.long q1), .second, .val (.long v2), .second, .unset, .unset, .unset, .unset, .unset, .unset] [(.long v2)])) rfl (hb hby d4_13)) ?_
  show Go p e below _ (s₁.setTop (mkF m 16 #[.val (.long q1), .second, .val (.long v2), .second, .unset, .unset, .unset, .unset, .unset, .unset] [(.long (-7723592293110705685 : Int64)), (.long v2)]))
  obtain ⟨_, _, ⟨T3, L3, k3, n3⟩, -, X3, ⟨Lc3, hQ3, l3, y3, z3⟩, st3⟩ := Jvm.LawKit.callS X0 hx (y := (⟨"com/example/hertzbid/hertzbid/SeededRandomNextLongPinLaw", "inverse", "(J)J"⟩ : MethodName)) hown (mvT hZ (hw _ (List.mem_of_getElem? (i := 24) rfl))) (mvT hZ (hw _ (List.mem_of_getElem? (i := 25) rfl))) (mvT hZ (hw _ (List.mem_of_getElem? (i := 21) rfl))) (mvT hZ (hw _ (List.mem_of_getElem? (i := 26) rfl))) (by decide) (backOf (W := 2) (rm5 l Z a0 hw [] (-7723592293110705685 : Int64) h0 n0 Z0) hZ (hw _ (List.mem_of_getElem? (i := 26) rfl)) (hw _ (List.mem_of_getElem? (i := 21) rfl)) (by decide) (by decide)) (g := (mkF m 16 #[.val (.long q1), .second, .val (.long v2), .second, .unset, .unset, .unset, .unset, .unset, .unset] [(.long (-7723592293110705685 : Int64)), (.long v2)])) rfl (by rw [hml]; rfl) (argsL := [(.long (-7723592293110705685 : Int64))]) (rest := [(.long v2)]) (lenOf pd_0 rfl) rfl (by show 2 * 0 + _ ≤ _; exact Nat.le_of_eq rfl) (hb hby d4_16) (fun _ _ => ⟨rfl, e0, (by decide : 0 + 0 ≤ _), (by decide : 0 + 0 ≤ _)⟩)
  dsimp only [Pt.U, Pt.locs, Pt.cells, Pt.slots] at X3 l3 y3 z3 st3 hQ3
  subst l3 y3 z3
  obtain ⟨rfl, N3q, e3⟩ := hQ3
  have N3 := Fr.app N0 N3q
  refine Go.step st3 ?_
  show Go p e below _ (T3.setTop (mkF m 19 #[.val (.long q1), .second, .val (.long v2), .second, .unset, .unset, .unset, .unset, .unset, .unset] [(.long (f5 (-7723592293110705685 : Int64))), (.long v2)]))
  refine Go.step (fun t k => XS.lmul X3.here hx rfl (hb hby d4_19) rfl k) ?_
  show Go p e below _ (T3.setTop (mkF m 20 #[.val (.long q1), .second, .val (.long v2), .second, .unset, .unset, .unset, .unset, .unset, .unset] [(.long (v2 * (f5 (-7723592293110705685 : Int64))))]))
  obtain ⟨v4, hv4⟩ : ∃ z : Int64, z = (v2 * (f5 (-7723592293110705685 : Int64))) := ⟨_, rfl⟩
  rw [← hv4]
  show Go p e below _ (T3.setTop (mkF m 20 #[.val (.long q1), .second, .val (.long v2), .second, .unset, .unset, .unset, .unset, .unset, .unset] [(.long v4)]))
  refine Go.step (fun t k => XS.lstore X3.here hx rfl (hb hby d4_20) rfl (l' := #[.val (.long q1), .second, .val (.long v2), .second, .val (.long v4), .second, .unset, .unset, .unset, .unset]) rfl k) ?_
  show Go p e below _ (T3.setTop (mkF m 22 #[.val (.long q1), .second, .val (.long v2), .second, .val (.long v4), .second, .unset, .unset, .unset, .unset] []))
  refine Go.step (fun t k => XS.lload X3.here hx rfl (hb hby d4_22) rfl k) ?_
  show Go p e below _ (T3.setTop (mkF m 24 #[.val (.long q1), .second, .val (.long v2), .second, .val (.long v4), .second, .unset, .unset, .unset, .unset] [(.long v4)]))
  refine Go.step (fun t k => XS.lload X3.here hx rfl (hb hby d4_24) rfl k) ?_
  show Go p e below _ (T3.setTop (mkF m 26 #[.val (.long q1), .second, .val (.long v2), .second, .val (.long v4), .second, .unset, .unset, .unset, .unset] [(.long v4), (.long v4)]))
  refine Go.step (fun t k => XS.bipush X3.here hx rfl (hb hby d4_26)  k) ?_
  show Go p e below _ (T3.setTop (mkF m 28 #[.val (.long q1), .second, .val (.long v2), .second, .val (.long v4), .second, .unset, .unset, .unset, .unset] [(.int (27 : Int32)), (.long v4), (.long v4)]))
  refine Go.step (fun t k => XS.lushr X3.here hx rfl (hb hby d4_28) rfl k) ?_
  show Go p e below _ (T3.setTop (mkF m 29 #[.val (.long q1), .second, .val (.long v2), .second, .val (.long v4), .second, .unset, .unset, .unset, .unset] [(.long ((v4.toUInt64 >>> ((27 : Int32) &&& 0x3f).toInt64.toUInt64).toInt64)), (.long v4)]))
  refine Go.step (fun t k => XS.lxor X3.here hx rfl (hb hby d4_29) rfl k) ?_
  show Go p e below _ (T3.setTop (mkF m 30 #[.val (.long q1), .second, .val (.long v2), .second, .val (.long v4), .second, .unset, .unset, .unset, .unset] [(.long (v4 ^^^ ((v4.toUInt64 >>> ((27 : Int32) &&& 0x3f).toInt64.toUInt64).toInt64)))]))
  refine Go.step (fun t k => XS.lload X3.here hx rfl (hb hby d4_30) rfl k) ?_
  show Go p e below _ (T3.setTop (mkF m 32 #[.val (.long q1), .second, .val (.long v2), .second, .val (.long v4), .second, .unset, .unset, .unset, .unset] [(.long v4), (.long (v4 ^^^ ((v4.toUInt64 >>> ((27 : Int32) &&& 0x3f).toInt64.toUInt64).toInt64)))]))
  refine Go.step (fun t k => XS.bipush X3.here hx rfl (hb hby d4_32)  k) ?_
  show Go p e below _ (T3.setTop (mkF m 34 #[.val (.long q1), .second, .val (.long v2), .second, .val (.long v4), .second, .unset, .unset, .unset, .unset] [(.int (54 : Int32)), (.long v4), (.long (v4 ^^^ ((v4.toUInt64 >>> ((27 : Int32) &&& 0x3f).toInt64.toUInt64).toInt64)))]))
  refine Go.step (fun t k => XS.lushr X3.here hx rfl (hb hby d4_34) rfl k) ?_
  show Go p e below _ (T3.setTop (mkF m 35 #[.val (.long q1), .second, .val (.long v2), .second, .val (.long v4), .second, .unset, .unset, .unset, .unset] [(.long ((v4.toUInt64 >>> ((54 : Int32) &&& 0x3f).toInt64.toUInt64).toInt64)), (.long (v4 ^^^ ((v4.toUInt64 >>> ((27 : Int32) &&& 0x3f).toInt64.toUInt64).toInt64)))]))
  refine Go.step (fun t k => XS.lxor X3.here hx rfl (hb hby d4_35) rfl k) ?_
  show Go p e below _ (T3.setTop (mkF m 36 #[.val (.long q1), .second, .val (.long v2), .second, .val (.long v4), .second, .unset, .unset, .unset, .unset] [(.long ((v4 ^^^ ((v4.toUInt64 >>> ((27 : Int32) &&& 0x3f).toInt64.toUInt64).toInt64)) ^^^ ((v4.toUInt64 >>> ((54 : Int32) &&& 0x3f).toInt64.toUInt64).toInt64)))]))
  obtain ⟨v5, hv5⟩ : ∃ z : Int64, z = ((v4 ^^^ ((v4.toUInt64 >>> ((27 : Int32) &&& 0x3f).toInt64.toUInt64).toInt64)) ^^^ ((v4.toUInt64 >>> ((54 : Int32) &&& 0x3f).toInt64.toUInt64).toInt64)) := ⟨_, rfl⟩
  rw [← hv5]
  show Go p e below _ (T3.setTop (mkF m 36 #[.val (.long q1), .second, .val (.long v2), .second, .val (.long v4), .second, .unset, .unset, .unset, .unset] [(.long v5)]))
  refine Go.step (fun t k => XS.lstore X3.here hx rfl (hb hby d4_36) rfl (l' := #[.val (.long q1), .second, .val (.long v2), .second, .val (.long v4), .second, .val (.long v5), .second, .unset, .unset]) rfl k) ?_
  show Go p e below _ (T3.setTop (mkF m 38 #[.val (.long q1), .second, .val (.long v2), .second, .val (.long v4), .second, .val (.long v5), .second, .unset, .unset] []))
  refine Go.step (fun t k => XS.lload X3.here hx rfl (hb hby d4_38) rfl k) ?_
  show Go p e below _ (T3.setTop (mkF m 40 #[.val (.long q1), .second, .val (.long v2), .second, .val (.long v4), .second, .val (.long v5), .second, .unset, .unset] [(.long v5)]))
  refine Go.step (X3.ldc2Long hx hown (mvT hZ (hw _ (List.mem_of_getElem? (i := 28) rfl))) (g := (mkF m 40 #[.val (.long q1), .second, .val (.long v2), .second, .val (.long v4), .second, .val (.long v5), .second, .unset, .unset] [(.long v5)])) rfl (hb hby d4_40)) ?_
  show Go p e below _ (T3.setTop (mkF m 43 #[.val (.long q1), .second, .val (.long v2), .second, .val (.long v4), .second, .val (.long v5), .second, .unset, .unset] [(.long (-4658895280553007687 : Int64)), (.long v5)]))
  obtain ⟨_, _, ⟨T6, L6, k6, n6⟩, -, X6, ⟨Lc6, hQ6, l6, y6, z6⟩, st6⟩ := Jvm.LawKit.callS X3 hx (y := (⟨"com/example/hertzbid/hertzbid/SeededRandomNextLongPinLaw", "inverse", "(J)J"⟩ : MethodName)) hown (mvT hZ (hw _ (List.mem_of_getElem? (i := 24) rfl))) (mvT hZ (hw _ (List.mem_of_getElem? (i := 25) rfl))) (mvT hZ (hw _ (List.mem_of_getElem? (i := 21) rfl))) (mvT hZ (hw _ (List.mem_of_getElem? (i := 26) rfl))) (by decide) (backOf (W := 2) (rm5 l Z a0 hw [] (-4658895280553007687 : Int64) h0 n0 Z0) hZ (hw _ (List.mem_of_getElem? (i := 26) rfl)) (hw _ (List.mem_of_getElem? (i := 21) rfl)) (by decide) (by decide)) (g := (mkF m 43 #[.val (.long q1), .second, .val (.long v2), .second, .val (.long v4), .second, .val (.long v5), .second, .unset, .unset] [(.long (-4658895280553007687 : Int64)), (.long v5)])) rfl (by rw [hml]; rfl) (argsL := [(.long (-4658895280553007687 : Int64))]) (rest := [(.long v5)]) (lenOf pd_0 rfl) rfl (by show 2 * 0 + _ ≤ _; exact Nat.le_of_eq rfl) (hb hby d4_43) (fun _ _ => ⟨rfl, e3, (by decide : 0 + 0 ≤ _), (by decide : 0 + 0 ≤ _)⟩)
  dsimp only [Pt.U, Pt.locs, Pt.cells, Pt.slots] at X6 l6 y6 z6 st6 hQ6
  subst l6 y6 z6
  obtain ⟨rfl, N6q, e6⟩ := hQ6
  have N6 := Fr.app N3 N6q
  refine Go.step st6 ?_
  show Go p e below _ (T6.setTop (mkF m 46 #[.val (.long q1), .second, .val (.long v2), .second, .val (.long v4), .second, .val (.long v5), .second, .unset, .unset] [(.long (f5 (-4658895280553007687 : Int64))), (.long v5)]))
  refine Go.step (fun t k => XS.lmul X6.here hx rfl (hb hby d4_46) rfl k) ?_
  show Go p e below _ (T6.setTop (mkF m 47 #[.val (.long q1), .second, .val (.long v2), .second, .val (.long v4), .second, .val (.long v5), .second, .unset, .unset] [(.long (v5 * (f5 (-4658895280553007687 : Int64))))]))
  obtain ⟨v7, hv7⟩ : ∃ z : Int64, z = (v5 * (f5 (-4658895280553007687 : Int64))) := ⟨_, rfl⟩
  rw [← hv7]
  show Go p e below _ (T6.setTop (mkF m 47 #[.val (.long q1), .second, .val (.long v2), .second, .val (.long v4), .second, .val (.long v5), .second, .unset, .unset] [(.long v7)]))
  refine Go.step (fun t k => XS.lstore X6.here hx rfl (hb hby d4_47) rfl (l' := #[.val (.long q1), .second, .val (.long v2), .second, .val (.long v4), .second, .val (.long v5), .second, .val (.long v7), .second]) rfl k) ?_
  show Go p e below _ (T6.setTop (mkF m 49 #[.val (.long q1), .second, .val (.long v2), .second, .val (.long v4), .second, .val (.long v5), .second, .val (.long v7), .second] []))
  refine Go.step (fun t k => XS.lload X6.here hx rfl (hb hby d4_49) rfl k) ?_
  show Go p e below _ (T6.setTop (mkF m 51 #[.val (.long q1), .second, .val (.long v2), .second, .val (.long v4), .second, .val (.long v5), .second, .val (.long v7), .second] [(.long v7)]))
  refine Go.step (fun t k => XS.lload X6.here hx rfl (hb hby d4_51) rfl k) ?_
  show Go p e below _ (T6.setTop (mkF m 53 #[.val (.long q1), .second, .val (.long v2), .second, .val (.long v4), .second, .val (.long v5), .second, .val (.long v7), .second] [(.long v7), (.long v7)]))
  refine Go.step (fun t k => XS.bipush X6.here hx rfl (hb hby d4_53)  k) ?_
  show Go p e below _ (T6.setTop (mkF m 55 #[.val (.long q1), .second, .val (.long v2), .second, .val (.long v4), .second, .val (.long v5), .second, .val (.long v7), .second] [(.int (30 : Int32)), (.long v7), (.long v7)]))
  refine Go.step (fun t k => XS.lushr X6.here hx rfl (hb hby d4_55) rfl k) ?_
  show Go p e below _ (T6.setTop (mkF m 56 #[.val (.long q1), .second, .val (.long v2), .second, .val (.long v4), .second, .val (.long v5), .second, .val (.long v7), .second] [(.long ((v7.toUInt64 >>> ((30 : Int32) &&& 0x3f).toInt64.toUInt64).toInt64)), (.long v7)]))
  refine Go.step (fun t k => XS.lxor X6.here hx rfl (hb hby d4_56) rfl k) ?_
  show Go p e below _ (T6.setTop (mkF m 57 #[.val (.long q1), .second, .val (.long v2), .second, .val (.long v4), .second, .val (.long v5), .second, .val (.long v7), .second] [(.long (v7 ^^^ ((v7.toUInt64 >>> ((30 : Int32) &&& 0x3f).toInt64.toUInt64).toInt64)))]))
  refine Go.step (fun t k => XS.lload X6.here hx rfl (hb hby d4_57) rfl k) ?_
  show Go p e below _ (T6.setTop (mkF m 59 #[.val (.long q1), .second, .val (.long v2), .second, .val (.long v4), .second, .val (.long v5), .second, .val (.long v7), .second] [(.long v7), (.long (v7 ^^^ ((v7.toUInt64 >>> ((30 : Int32) &&& 0x3f).toInt64.toUInt64).toInt64)))]))
  refine Go.step (fun t k => XS.bipush X6.here hx rfl (hb hby d4_59)  k) ?_
  show Go p e below _ (T6.setTop (mkF m 61 #[.val (.long q1), .second, .val (.long v2), .second, .val (.long v4), .second, .val (.long v5), .second, .val (.long v7), .second] [(.int (60 : Int32)), (.long v7), (.long (v7 ^^^ ((v7.toUInt64 >>> ((30 : Int32) &&& 0x3f).toInt64.toUInt64).toInt64)))]))
  refine Go.step (fun t k => XS.lushr X6.here hx rfl (hb hby d4_61) rfl k) ?_
  show Go p e below _ (T6.setTop (mkF m 62 #[.val (.long q1), .second, .val (.long v2), .second, .val (.long v4), .second, .val (.long v5), .second, .val (.long v7), .second] [(.long ((v7.toUInt64 >>> ((60 : Int32) &&& 0x3f).toInt64.toUInt64).toInt64)), (.long (v7 ^^^ ((v7.toUInt64 >>> ((30 : Int32) &&& 0x3f).toInt64.toUInt64).toInt64)))]))
  refine Go.step (fun t k => XS.lxor X6.here hx rfl (hb hby d4_62) rfl k) ?_
  show Go p e below _ (T6.setTop (mkF m 63 #[.val (.long q1), .second, .val (.long v2), .second, .val (.long v4), .second, .val (.long v5), .second, .val (.long v7), .second] [(.long ((v7 ^^^ ((v7.toUInt64 >>> ((30 : Int32) &&& 0x3f).toInt64.toUInt64).toInt64)) ^^^ ((v7.toUInt64 >>> ((60 : Int32) &&& 0x3f).toInt64.toUInt64).toInt64)))]))
  subst hv7
  subst hv5
  subst hv4
  subst hv2
  exact retGJ X6 hx Bd.notSynchronized Bd.returns (hb hby d4_63) ⟨by first | rfl | (simp only [f4]; done) | (simp [f4]; done), N6, e6⟩ (by decide) (by decide)
theorem pd_1 : parseMethodDescriptor "(J)V" = some ⟨[.long], none⟩ := by decide +kernel
theorem pd_2 : parseMethodDescriptor "()J" = some ⟨[], some .long⟩ := by decide +kernel
theorem ef_0 (m : MethodId) (q1 : Int64) : entryFrame m #[(.long q1)] maxLocals = mkF m 0 #[.val (.long q1), .second, .unset, .unset, .unset, .unset, .unset] [] := by first | (simp [entryFrame, mkF, argsToLocals, Value.category, maxLocals]; done) | rfl
def f0 (q1 : Int64) : Int32 := (if (f4 (f3 q1)) = (q1 + (-7046029254386353131 : Int64)) then (if (f4 (f3 (f3_state q1))) = (q1 + (4354685564936845354 : Int64)) then (1 : Int32) else (0 : Int32)) else (0 : Int32))
set_option maxRecDepth 65536 in
set_option maxHeartbeats 40000000 in
theorem rm0 (l : Launch) (Z : State) (a0 : Array Value) (hw : ∀ d ∈ tables_1, d.before a0 Z = true) (ws : List Jvm.Cond) (q1 : Int64) (h0 : Heap) (n0 : Nat) (Z0 : n0 ≤ h0.size) :
    MetFree l x (head1 (Jvm.Cond.code x code maxLocals ret :: ws) room_1) (fun a U => a = #[(.long q1)] ∧ Z.Warmed39 U.vm ∧ U.heap = h0) (fun _ _ _ _ _ => True) (fun _ U o U' => ∃ v L, o = .returned v ∧ QL (.int (f0 q1)) n0 v U'.heap L ∧ FrameEnd U o U' L room_1.cells room_1.slots) := by
  refine MetFree.of_bodySF (plainFor_of_name pn_1) hisR ?_
  intro p e s m args below meth c s₁ Bd hml0 hP hK
  obtain ⟨rfl, hZ, hh⟩ := hP
  have hx := Bd.exec
  have hby := Bd.bytes
  have hml : c.maxLocals = 7 := hml0
  have hown : s.vm.findClass "com/example/hertzbid/hertzbid/SeededRandomNextLongPinLaw" = some m.cls := findClass_of_methodNamed Bd.named
  have hnm := (name_of_methodNamed Bd.named Bd.method).1
  have X0 : Stand p l e room_1 s m #[(.long q1)] below meth c s₁ [] 0 0 := Stand.of_body Bd
  have e0 : s₁.heap = h0 := by rw [← hh, Bd.state]; rfl
  have N0 := Fr.nil n0
  refine Go.done (Go.step (fun t k => castTop (ef_0 m q1) k) ?_)
  have KK0 : Keep h0 h0 [] := Keep.refl _ _
  show Go p e below _ (s₁.setTop (mkF m 0 #[.val (.long q1), .second, .unset, .unset, .unset, .unset, .unset] []))
  obtain ⟨T2, h2, X2, e2, E2, A2, D2, -, st2⟩ := newO X0 hx hZ hown (hw _ (List.mem_of_getElem? (i := 0) rfl)) (hw _ (List.mem_of_getElem? (i := 1) rfl)) (hw _ (List.mem_of_getElem? (i := 2) rfl)) e0 (g := (mkF m 0 #[.val (.long q1), .second, .unset, .unset, .unset, .unset, .unset] [])) rfl (hb hby at_0) (by decide) (by decide)
  obtain ⟨b2, g2⟩ : ∃ z, z = h0.size := ⟨_, rfl⟩
  rw [← g2] at A2 D2 st2
  have g_b2 : n0 ≤ b2 := Nat.le_trans Z0 (Nat.le_of_eq g2.symm)
  have sz_b2 : h0.size ≤ b2 := Nat.le_trans KK0.1 (Nat.le_of_eq g2.symm)
  refine Go.step st2 ?_
  have Z2 := Nat.le_trans Z0 E2.1
  have KK2 : Keep h0 h2 [] := KK0.ext E2
  have F_state_b2 : Fld Z h2 b2 "com/example/hertzbid/hertzbid/SeededRandom" "state" "J" (.long (0 : Int64)) := D2 (Or.inl (hw _ (List.mem_of_getElem? (i := 10) rfl))) (ty := .long) (by decide)
  show Go p e below _ (T2.setTop (mkF m 3 #[.val (.long q1), .second, .unset, .unset, .unset, .unset, .unset] [(.ref b2)]))
  refine Go.step (fun t k => XS.dup X2.here hx rfl (hb hby at_3) rfl rfl k) ?_
  show Go p e below _ (T2.setTop (mkF m 4 #[.val (.long q1), .second, .unset, .unset, .unset, .unset, .unset] [(.ref b2), (.ref b2)]))
  refine Go.step (fun t k => XS.lloadN X2.here hx rfl (hb hby at_4) rfl k) ?_
  show Go p e below _ (T2.setTop (mkF m 5 #[.val (.long q1), .second, .unset, .unset, .unset, .unset, .unset] [(.long q1), (.ref b2), (.ref b2)]))
  obtain ⟨_, _, ⟨T3, L3, k3, n3⟩, -, X3, ⟨Lc3, hQ3, l3, y3, z3⟩, st3⟩ := X2.specialBack hx (y := (⟨"com/example/hertzbid/hertzbid/SeededRandom", "<init>", "(J)V"⟩ : MethodName)) rfl hown (mvT hZ (hw _ (List.mem_of_getElem? (i := 3) rfl))) (mvT hZ (hw _ (List.mem_of_getElem? (i := 4) rfl))) (mvT hZ (hw _ (List.mem_of_getElem? (i := 5) rfl))) (by decide) (backOf (W := 1) (rm1 l Z a0 hw [] b2 q1 (0 : Int64) h2 n0 Z2 A2 F_state_b2 g_b2) hZ (hw _ (List.mem_of_getElem? (i := 5) rfl)) (hw _ (List.mem_of_getElem? (i := 2) rfl)) (by decide) (by decide)) (g := (mkF m 5 #[.val (.long q1), .second, .unset, .unset, .unset, .unset, .unset] [(.long q1), (.ref b2), (.ref b2)])) rfl (by rw [hml]; rfl) (Steps.refl _) (a := b2) (argsL := [(.long q1)]) (rest := [(.ref b2)]) (lenOf pd_1 rfl) rfl (by show 2 * 0 + _ ≤ _; exact Nat.le_of_eq rfl) (hb hby at_5) (fun _ _ => ⟨rfl, e2, (by decide : 1 + 0 ≤ _), (by decide : 1 + 0 ≤ _)⟩)
  dsimp only [Pt.U, Pt.locs, Pt.cells, Pt.slots] at X3 l3 y3 z3 st3 hQ3
  subst l3 y3 z3
  obtain ⟨rfl, N3q, K3, Q3_0, Q3_1⟩ := hQ3
  have N3 := Fr.app N0 N3q
  have E_b2_3 := A2.keep K3
  have Z3 := Nat.le_trans Z2 K3.1
  have KK3 : Keep h0 T3.heap [] := KK2.trans K3 (allS (Or.inr sz_b2) all0)
  refine Go.trans st3 ?_
  show Go p e below _ (T3.setTop (mkF m 8 #[.val (.long q1), .second, .unset, .unset, .unset, .unset, .unset] [(.ref b2)]))
  refine Go.step (fun t k => XS.astoreN X3.here hx rfl (hb hby at_8) rfl rfl (l' := #[.val (.long q1), .second, .val (.ref b2), .unset, .unset, .unset, .unset]) rfl k) ?_
  show Go p e below _ (T3.setTop (mkF m 9 #[.val (.long q1), .second, .val (.ref b2), .unset, .unset, .unset, .unset] []))
  refine Go.step (fun t k => XS.aloadN X3.here hx rfl (hb hby at_9) rfl rfl k) ?_
  show Go p e below _ (T3.setTop (mkF m 10 #[.val (.long q1), .second, .val (.ref b2), .unset, .unset, .unset, .unset] [(.ref b2)]))
  obtain ⟨cq4, kq4, q4a, q4b, q4c⟩ := isOf hZ rfl Q3_0
  obtain ⟨_, _, ⟨T4, L4, k4, n4⟩, -, X4, ⟨Lc4, hQ4, l4, y4, z4⟩, st4⟩ := X3.virtualBack hx (y := (⟨"com/example/hertzbid/hertzbid/SeededRandom", "nextLong", "()J"⟩ : MethodName)) (z := (⟨"com/example/hertzbid/hertzbid/SeededRandom", "nextLong", "()J"⟩ : MethodName)) hown (mvT hZ (hw _ (List.mem_of_getElem? (i := 11) rfl))) (mvT hZ (hw _ (List.mem_of_getElem? (i := 12) rfl))) (notFace_of_selects (args := #[]) (mvT hZ (hw _ (List.mem_of_getElem? (i := 14) rfl)))) (mvT hZ (hw _ (List.mem_of_getElem? (i := 14) rfl))) (mvT hZ (hw _ (List.mem_of_getElem? (i := 13) rfl))) (by decide) (backOf (W := 0) (rm3 l Z a0 hw [] b2 q1 T3.heap n0 Z3 Q3_1 Q3_0 g_b2) hZ (hw _ (List.mem_of_getElem? (i := 15) rfl)) (hw _ (List.mem_of_getElem? (i := 2) rfl)) (by decide) (by decide)) q4a q4c (g := (mkF m 10 #[.val (.long q1), .second, .val (.ref b2), .unset, .unset, .unset, .unset] [(.ref b2)])) rfl (by rw [hml]; rfl) (Steps.refl _) (argsL := []) (rest := []) (lenOf pd_2 rfl) rfl (by show 2 * 0 + _ ≤ _; exact Nat.le_of_eq rfl) (hb hby at_10) (fun _ _ => ⟨rfl, rfl, (by decide : 1 + 0 ≤ _), (by decide : 1 + 0 ≤ _)⟩)
  dsimp only [Pt.U, Pt.locs, Pt.cells, Pt.slots] at X4 l4 y4 z4 st4 hQ4
  subst l4 y4 z4
  obtain ⟨rfl, N4q, K4, Q4_0, Q4_1⟩ := hQ4
  have N4 := Fr.app N3 N4q
  have E_b2_4 := Q3_0.keep K4
  have Z4 := Nat.le_trans Z3 K4.1
  have KK4 : Keep h0 T4.heap [] := KK3.trans K4 (allS (Or.inr sz_b2) all0)
  refine Go.trans st4 ?_
  show Go p e below _ (T4.setTop (mkF m 13 #[.val (.long q1), .second, .val (.ref b2), .unset, .unset, .unset, .unset] [(.long (f3 q1))]))
  refine Go.step (fun t k => XS.lstoreN X4.here hx rfl (hb hby at_13) rfl (l' := #[.val (.long q1), .second, .val (.ref b2), .val (.long (f3 q1)), .second, .unset, .unset]) rfl k) ?_
  show Go p e below _ (T4.setTop (mkF m 14 #[.val (.long q1), .second, .val (.ref b2), .val (.long (f3 q1)), .second, .unset, .unset] []))
  refine Go.step (fun t k => XS.aloadN X4.here hx rfl (hb hby at_14) rfl rfl k) ?_
  show Go p e below _ (T4.setTop (mkF m 15 #[.val (.long q1), .second, .val (.ref b2), .val (.long (f3 q1)), .second, .unset, .unset] [(.ref b2)]))
  obtain ⟨cq5, kq5, q5a, q5b, q5c⟩ := isOf hZ rfl Q4_1
  obtain ⟨_, _, ⟨T5, L5, k5, n5⟩, -, X5, ⟨Lc5, hQ5, l5, y5, z5⟩, st5⟩ := X4.virtualBack hx (y := (⟨"com/example/hertzbid/hertzbid/SeededRandom", "nextLong", "()J"⟩ : MethodName)) (z := (⟨"com/example/hertzbid/hertzbid/SeededRandom", "nextLong", "()J"⟩ : MethodName)) hown (mvT hZ (hw _ (List.mem_of_getElem? (i := 11) rfl))) (mvT hZ (hw _ (List.mem_of_getElem? (i := 12) rfl))) (notFace_of_selects (args := #[]) (mvT hZ (hw _ (List.mem_of_getElem? (i := 14) rfl)))) (mvT hZ (hw _ (List.mem_of_getElem? (i := 14) rfl))) (mvT hZ (hw _ (List.mem_of_getElem? (i := 13) rfl))) (by decide) (backOf (W := 0) (rm3 l Z a0 hw [] b2 (f3_state q1) T4.heap n0 Z4 Q4_0 Q4_1 g_b2) hZ (hw _ (List.mem_of_getElem? (i := 15) rfl)) (hw _ (List.mem_of_getElem? (i := 2) rfl)) (by decide) (by decide)) q5a q5c (g := (mkF m 15 #[.val (.long q1), .second, .val (.ref b2), .val (.long (f3 q1)), .second, .unset, .unset] [(.ref b2)])) rfl (by rw [hml]; rfl) (Steps.refl _) (argsL := []) (rest := []) (lenOf pd_2 rfl) rfl (by show 2 * 0 + _ ≤ _; exact Nat.le_of_eq rfl) (hb hby at_15) (fun _ _ => ⟨rfl, rfl, (by decide : 1 + 0 ≤ _), (by decide : 1 + 0 ≤ _)⟩)
  dsimp only [Pt.U, Pt.locs, Pt.cells, Pt.slots] at X5 l5 y5 z5 st5 hQ5
  subst l5 y5 z5
  obtain ⟨rfl, N5q, K5, Q5_0, Q5_1⟩ := hQ5
  have N5 := Fr.app N4 N5q
  have E_b2_5 := Q4_1.keep K5
  have Z5 := Nat.le_trans Z4 K5.1
  have KK5 : Keep h0 T5.heap [] := KK4.trans K5 (allS (Or.inr sz_b2) all0)
  refine Go.trans st5 ?_
  show Go p e below _ (T5.setTop (mkF m 18 #[.val (.long q1), .second, .val (.ref b2), .val (.long (f3 q1)), .second, .unset, .unset] [(.long (f3 (f3_state q1)))]))
  obtain ⟨v6, hv6⟩ : ∃ z : Int64, z = (f3 (f3_state q1)) := ⟨_, rfl⟩
  rw [← hv6]
  show Go p e below _ (T5.setTop (mkF m 18 #[.val (.long q1), .second, .val (.ref b2), .val (.long (f3 q1)), .second, .unset, .unset] [(.long v6)]))
  refine Go.step (fun t k => XS.lstore X5.here hx rfl (hb hby at_18) rfl (l' := #[.val (.long q1), .second, .val (.ref b2), .val (.long (f3 q1)), .second, .val (.long v6), .second]) rfl k) ?_
  show Go p e below _ (T5.setTop (mkF m 20 #[.val (.long q1), .second, .val (.ref b2), .val (.long (f3 q1)), .second, .val (.long v6), .second] []))
  refine Go.step (fun t k => XS.lloadN X5.here hx rfl (hb hby at_20) rfl k) ?_
  show Go p e below _ (T5.setTop (mkF m 21 #[.val (.long q1), .second, .val (.ref b2), .val (.long (f3 q1)), .second, .val (.long v6), .second] [(.long (f3 q1))]))
  obtain ⟨_, _, ⟨T7, L7, k7, n7⟩, -, X7, ⟨Lc7, hQ7, l7, y7, z7⟩, st7⟩ := Jvm.LawKit.callS X5 hx (y := (⟨"com/example/hertzbid/hertzbid/SeededRandomNextLongPinLaw", "unmix", "(J)J"⟩ : MethodName)) hown (mvT hZ (hw _ (List.mem_of_getElem? (i := 19) rfl))) (mvT hZ (hw _ (List.mem_of_getElem? (i := 20) rfl))) (mvT hZ (hw _ (List.mem_of_getElem? (i := 21) rfl))) (mvT hZ (hw _ (List.mem_of_getElem? (i := 22) rfl))) (by decide) (backOf (W := 0) (rm4 l Z a0 hw [] (f3 q1) T5.heap n0 Z5) hZ (hw _ (List.mem_of_getElem? (i := 22) rfl)) (hw _ (List.mem_of_getElem? (i := 21) rfl)) (by decide) (by decide)) (g := (mkF m 21 #[.val (.long q1), .second, .val (.ref b2), .val (.long (f3 q1)), .second, .val (.long v6), .second] [(.long (f3 q1))])) rfl (by rw [hml]; rfl) (argsL := [(.long (f3 q1))]) (rest := []) (lenOf pd_0 rfl) rfl (by show 2 * 0 + _ ≤ _; exact Nat.le_of_eq rfl) (hb hby at_21) (fun _ _ => ⟨rfl, rfl, (by decide : 1 + 0 ≤ _), (by decide : 1 + 0 ≤ _)⟩)
  dsimp only [Pt.U, Pt.locs, Pt.cells, Pt.slots] at X7 l7 y7 z7 st7 hQ7
  subst l7 y7 z7
  obtain ⟨rfl, N7q, e7⟩ := hQ7
  have N7 := Fr.app N5 N7q
  refine Go.step st7 ?_
  show Go p e below _ (T7.setTop (mkF m 24 #[.val (.long q1), .second, .val (.ref b2), .val (.long (f3 q1)), .second, .val (.long v6), .second] [(.long (f4 (f3 q1)))]))
  refine Go.step (fun t k => XS.lloadN X7.here hx rfl (hb hby at_24) rfl k) ?_
  show Go p e below _ (T7.setTop (mkF m 25 #[.val (.long q1), .second, .val (.ref b2), .val (.long (f3 q1)), .second, .val (.long v6), .second] [(.long q1), (.long (f4 (f3 q1)))]))
  refine Go.step (X7.ldc2Long hx hown (mvT hZ (hw _ (List.mem_of_getElem? (i := 29) rfl))) (g := (mkF m 25 #[.val (.long q1), .second, .val (.ref b2), .val (.long (f3 q1)), .second, .val (.long v6), .second] [(.long q1), (.long (f4 (f3 q1)))])) rfl (hb hby at_25)) ?_
  show Go p e below _ (T7.setTop (mkF m 28 #[.val (.long q1), .second, .val (.ref b2), .val (.long (f3 q1)), .second, .val (.long v6), .second] [(.long (-7046029254386353131 : Int64)), (.long q1), (.long (f4 (f3 q1)))]))
  refine Go.step (fun t k => XS.ladd X7.here hx rfl (hb hby at_28) rfl k) ?_
  show Go p e below _ (T7.setTop (mkF m 29 #[.val (.long q1), .second, .val (.ref b2), .val (.long (f3 q1)), .second, .val (.long v6), .second] [(.long (q1 + (-7046029254386353131 : Int64))), (.long (f4 (f3 q1)))]))
  refine Go.step (fun t k => XS.lcmp X7.here hx rfl (hb hby at_29) rfl k) ?_
  show Go p e below _ (T7.setTop (mkF m 30 #[.val (.long q1), .second, .val (.ref b2), .val (.long (f3 q1)), .second, .val (.long v6), .second] [(.int (lcmpW (f4 (f3 q1)) (q1 + (-7046029254386353131 : Int64))))]))
  by_cases hc8 : (f4 (f3 q1)) = (q1 + (-7046029254386353131 : Int64))
  · refine Go.step (fun t k => XS.ifNo X7.here hx rfl (hb hby at_30) rfl ((if0 _ _).trans (teq ((lw_eq _ _).mpr hc8)).2) k) ?_
    show Go p e below _ (T7.setTop (mkF m 33 #[.val (.long q1), .second, .val (.ref b2), .val (.long (f3 q1)), .second, .val (.long v6), .second] []))
    refine Go.step (fun t k => XS.lload X7.here hx rfl (hb hby at_33) rfl k) ?_
    show Go p e below _ (T7.setTop (mkF m 35 #[.val (.long q1), .second, .val (.ref b2), .val (.long (f3 q1)), .second, .val (.long v6), .second] [(.long v6)]))
    obtain ⟨_, _, ⟨T9, L9, k9, n9⟩, -, X9, ⟨Lc9, hQ9, l9, y9, z9⟩, st9⟩ := Jvm.LawKit.callS X7 hx (y := (⟨"com/example/hertzbid/hertzbid/SeededRandomNextLongPinLaw", "unmix", "(J)J"⟩ : MethodName)) hown (mvT hZ (hw _ (List.mem_of_getElem? (i := 19) rfl))) (mvT hZ (hw _ (List.mem_of_getElem? (i := 20) rfl))) (mvT hZ (hw _ (List.mem_of_getElem? (i := 21) rfl))) (mvT hZ (hw _ (List.mem_of_getElem? (i := 22) rfl))) (by decide) (backOf (W := 0) (rm4 l Z a0 hw [] v6 T5.heap n0 Z5) hZ (hw _ (List.mem_of_getElem? (i := 22) rfl)) (hw _ (List.mem_of_getElem? (i := 21) rfl)) (by decide) (by decide)) (g := (mkF m 35 #[.val (.long q1), .second, .val (.ref b2), .val (.long (f3 q1)), .second, .val (.long v6), .second] [(.long v6)])) rfl (by rw [hml]; rfl) (argsL := [(.long v6)]) (rest := []) (lenOf pd_0 rfl) rfl (by show 2 * 0 + _ ≤ _; exact Nat.le_of_eq rfl) (hb hby at_35) (fun _ _ => ⟨rfl, e7, (by decide : 1 + 0 ≤ _), (by decide : 1 + 0 ≤ _)⟩)
    dsimp only [Pt.U, Pt.locs, Pt.cells, Pt.slots] at X9 l9 y9 z9 st9 hQ9
    subst l9 y9 z9
    obtain ⟨rfl, N9q, e9⟩ := hQ9
    have N9 := Fr.app N7 N9q
    refine Go.step st9 ?_
    show Go p e below _ (T9.setTop (mkF m 38 #[.val (.long q1), .second, .val (.ref b2), .val (.long (f3 q1)), .second, .val (.long v6), .second] [(.long (f4 v6))]))
    refine Go.step (fun t k => XS.lloadN X9.here hx rfl (hb hby at_38) rfl k) ?_
    show Go p e below _ (T9.setTop (mkF m 39 #[.val (.long q1), .second, .val (.ref b2), .val (.long (f3 q1)), .second, .val (.long v6), .second] [(.long q1), (.long (f4 v6))]))
    refine Go.step (X9.ldc2Long hx hown (mvT hZ (hw _ (List.mem_of_getElem? (i := 30) rfl))) (g := (mkF m 39 #[.val (.long q1), .second, .val (.ref b2), .val (.long (f3 q1)), .second, .val (.long v6), .second] [(.long q1), (.long (f4 v6))])) rfl (hb hby at_39)) ?_
    show Go p e below _ (T9.setTop (mkF m 42 #[.val (.long q1), .second, .val (.ref b2), .val (.long (f3 q1)), .second, .val (.long v6), .second] [(.long (4354685564936845354 : Int64)), (.long q1), (.long (f4 v6))]))
    refine Go.step (fun t k => XS.ladd X9.here hx rfl (hb hby at_42) rfl k) ?_
    show Go p e below _ (T9.setTop (mkF m 43 #[.val (.long q1), .second, .val (.ref b2), .val (.long (f3 q1)), .second, .val (.long v6), .second] [(.long (q1 + (4354685564936845354 : Int64))), (.long (f4 v6))]))
    refine Go.step (fun t k => XS.lcmp X9.here hx rfl (hb hby at_43) rfl k) ?_
    show Go p e below _ (T9.setTop (mkF m 44 #[.val (.long q1), .second, .val (.ref b2), .val (.long (f3 q1)), .second, .val (.long v6), .second] [(.int (lcmpW (f4 v6) (q1 + (4354685564936845354 : Int64))))]))
    by_cases hc10 : (f4 v6) = (q1 + (4354685564936845354 : Int64))
    · refine Go.step (fun t k => XS.ifNo X9.here hx rfl (hb hby at_44) rfl ((if0 _ _).trans (teq ((lw_eq _ _).mpr hc10)).2) k) ?_
      show Go p e below _ (T9.setTop (mkF m 47 #[.val (.long q1), .second, .val (.ref b2), .val (.long (f3 q1)), .second, .val (.long v6), .second] []))
      refine Go.step (fun t k => XS.iconst X9.here hx rfl (hb hby at_47)  k) ?_
      show Go p e below _ (T9.setTop (mkF m 48 #[.val (.long q1), .second, .val (.ref b2), .val (.long (f3 q1)), .second, .val (.long v6), .second] [(.int (1 : Int32))]))
      refine Go.step (fun t k => XS.goto X9.here hx rfl (pc0 := 48) (pc' := 52) rfl (hb hby at_48) (by decide) (by decide) k) ?_
      show Go p e below _ (T9.setTop (mkF m 52 #[.val (.long q1), .second, .val (.ref b2), .val (.long (f3 q1)), .second, .val (.long v6), .second] [(.int (1 : Int32))]))
      subst hv6
      exact retGN X9 hx Bd.notSynchronized Bd.returns (t := .boolean) (by simp) (z' := (1 : Int32)) rfl (hb hby at_52) ⟨by first | (simp only [f0, if_pos hc8, if_pos hc10]; done) | rfl | (simp [f0, if_pos hc8, if_pos hc10]; done), N9⟩ (by decide) (by decide)
    · refine Go.step (fun t k => XS.ifYes X9.here hx rfl (pc0 := 44) (pc' := 51) rfl (hb hby at_44) rfl ((if0 _ _).trans (feq (fun q => hc10 ((lw_eq _ _).mp q))).2) (by decide) (by decide) k) ?_
      show Go p e below _ (T9.setTop (mkF m 51 #[.val (.long q1), .second, .val (.ref b2), .val (.long (f3 q1)), .second, .val (.long v6), .second] []))
      refine Go.step (fun t k => XS.iconst X9.here hx rfl (hb hby at_51)  k) ?_
      show Go p e below _ (T9.setTop (mkF m 52 #[.val (.long q1), .second, .val (.ref b2), .val (.long (f3 q1)), .second, .val (.long v6), .second] [(.int (0 : Int32))]))
      subst hv6
      exact retGN X9 hx Bd.notSynchronized Bd.returns (t := .boolean) (by simp) (z' := (0 : Int32)) rfl (hb hby at_52) ⟨by first | (simp only [f0, if_pos hc8, if_neg hc10]; done) | rfl | (simp [f0, if_pos hc8, if_neg hc10]; done), N9⟩ (by decide) (by decide)
  · refine Go.step (fun t k => XS.ifYes X7.here hx rfl (pc0 := 30) (pc' := 51) rfl (hb hby at_30) rfl ((if0 _ _).trans (feq (fun q => hc8 ((lw_eq _ _).mp q))).2) (by decide) (by decide) k) ?_
    show Go p e below _ (T7.setTop (mkF m 51 #[.val (.long q1), .second, .val (.ref b2), .val (.long (f3 q1)), .second, .val (.long v6), .second] []))
    refine Go.step (fun t k => XS.iconst X7.here hx rfl (hb hby at_51)  k) ?_
    show Go p e below _ (T7.setTop (mkF m 52 #[.val (.long q1), .second, .val (.ref b2), .val (.long (f3 q1)), .second, .val (.long v6), .second] [(.int (0 : Int32))]))
    subst hv6
    exact retGN X7 hx Bd.notSynchronized Bd.returns (t := .boolean) (by simp) (z' := (0 : Int32)) rfl (hb hby at_52) ⟨by first | (simp only [f0, if_neg hc8]; done) | rfl | (simp [f0, if_neg hc8]; done), N7⟩ (by decide) (by decide)
theorem bv_a (x : BitVec 64) (s : Nat) (hs : 64 ≤ 3*s) : ((x ^^^ (x >>> s)) ^^^ ((x ^^^ (x >>> s)) >>> s)) ^^^ ((x ^^^ (x >>> s)) >>> (s + s)) = x := by
  apply BitVec.eq_of_getLsbD_eq
  intro i hi
  simp only [BitVec.getLsbD_xor, BitVec.getLsbD_ushiftRight]
  have e : x.getLsbD (s + (s + s + i)) = false := BitVec.getLsbD_of_ge _ _ (by omega)
  rw [show s + s + i = s + (s + i) by omega] at e ⊢
  rw [e]
  cases x.getLsbD i <;> cases x.getLsbD (s + i) <;> cases x.getLsbD (s + (s + i)) <;> rfl
theorem bv_b (x : BitVec 64) (s : Nat) (hs : 64 ≤ 3*s) : (x ^^^ (x >>> s) ^^^ (x >>> (s+s))) ^^^ ((x ^^^ (x >>> s) ^^^ (x >>> (s + s))) >>> s) = x := by
  apply BitVec.eq_of_getLsbD_eq
  intro i hi
  simp only [BitVec.getLsbD_xor, BitVec.getLsbD_ushiftRight]
  have e : x.getLsbD (s + s + (s + i)) = false := BitVec.getLsbD_of_ge _ _ (by omega)
  rw [show s + s + (s + i) = s + (s + (s + i)) by omega] at e ⊢
  rw [show s + s + i = s + (s + i) by omega, e]
  cases x.getLsbD i <;> cases x.getLsbD (s + i) <;> cases x.getLsbD (s + (s + i)) <;> rfl
def shr (k : Int32) (x : Int64) : Int64 := ((x.toUInt64 >>> (k &&& 0x3f).toInt64.toUInt64).toInt64)
theorem shr_bv (x : Int64) (k : Int32) (n : Nat) (hk : (UInt64.mod (k &&& 0x3f).toInt64.toUInt64 64).toBitVec.toNat = n) : (shr k x).toBitVec = x.toBitVec >>> n := by
  subst hk
  rfl
/-- one xor-shift, and what undoes it -/
def fw (k : Int32) (x : Int64) : Int64 := x ^^^ shr k x
def bk (k k2 : Int32) (x : Int64) : Int64 := (x ^^^ shr k x) ^^^ shr k2 x
theorem bk_fw (k k2 : Int32) (n : Nat) (hk : (UInt64.mod (k &&& 0x3f).toInt64.toUInt64 64).toBitVec.toNat = n) (hk2 : (UInt64.mod (k2 &&& 0x3f).toInt64.toUInt64 64).toBitVec.toNat = n + n) (hn : 64 ≤ 3 * n) (x : Int64) : bk k k2 (fw k x) = x := by
  apply Int64.toBitVec_inj.mp
  simp only [bk, fw, Int64.toBitVec_xor, shr_bv _ k n hk, shr_bv _ k2 (n + n) hk2]
  exact bv_a _ _ hn
theorem fw_bk (k k2 : Int32) (n : Nat) (hk : (UInt64.mod (k &&& 0x3f).toInt64.toUInt64 64).toBitVec.toNat = n) (hk2 : (UInt64.mod (k2 &&& 0x3f).toInt64.toUInt64 64).toBitVec.toNat = n + n) (hn : 64 ≤ 3 * n) (x : Int64) : fw k (bk k k2 x) = x := by
  apply Int64.toBitVec_inj.mp
  simp only [bk, fw, Int64.toBitVec_xor, shr_bv _ k n hk, shr_bv _ k2 (n + n) hk2]
  exact bv_b _ _ hn
theorem mul_back (x m i : Int64) (h : m * i = 1) : x * m * i = x := by rw [Int64.mul_assoc, h, Int64.mul_one]

def fx (x : Int64) : Int64 := fw 31 (fw 27 (fw 30 x * (-4658895280553007687 : Int64)) * (-7723592293110705685 : Int64))
theorem f4_eq (x : Int64) : f4 x = bk 30 60 (bk 27 54 (bk 31 62 x * f5 (-7723592293110705685 : Int64)) * f5 (-4658895280553007687 : Int64)) := rfl
theorem i1 : (-4658895280553007687 : Int64) * f5 (-4658895280553007687 : Int64) = 1 := by decide +kernel
theorem i2 : (-7723592293110705685 : Int64) * f5 (-7723592293110705685 : Int64) = 1 := by decide +kernel
theorem forth (x : Int64) : f4 (fx x) = x := by
  rw [f4_eq, fx, bk_fw 31 62 31 (by decide) (by decide) (by decide), mul_back _ _ _ i2, bk_fw 27 54 27 (by decide) (by decide) (by decide), mul_back _ _ _ i1, bk_fw 30 60 30 (by decide) (by decide) (by decide)]
theorem two (x : Int64) : x + (-7046029254386353131 : Int64) + (-7046029254386353131 : Int64) = x + (4354685564936845354 : Int64) := by
  rw [Int64.add_assoc]; rfl
theorem law_true (x : Int64) : f0 x = 1 := by
  show (if f4 (fx (x + (-7046029254386353131 : Int64))) = x + (-7046029254386353131 : Int64) then (if f4 (fx (x + (-7046029254386353131 : Int64) + (-7046029254386353131 : Int64))) = x + (4354685564936845354 : Int64) then (1 : Int32) else (0 : Int32)) else (0 : Int32)) = 1
  rw [forth, forth, two, if_pos rfl, if_pos rfl]

set_option maxRecDepth 65536 in
set_option maxHeartbeats 40000000 in
theorem comes_1 {Post : Tables → Env → Array Value → State → Outcome → State → Prop} (hpost : ∀ tb e args s v u, (limb_1_1.after args s (.returned v) u = true ∧ limb_1_2.after args s (.returned v) u = true ∧ True) → FrameEnd s (.returned v) u (Jvm.fieldLocs frame_1_writes args s ++ Jvm.arrayLocs frame_1_arrays args s ++ Jvm.staticLocs frame_1_statics s) 16 128 → Post tb e args s (.returned v) u) :
    ArmFor flags0 classFile x code maxLocals ret World_1 tables_1 room_1 Calls_1 rest_1 Pre_1 Post := by
  intro l hfl _ _ p e ha hc hk s m args below hf hA hF happ hP
  obtain ⟨hcalls, hrest, hpre⟩ := hP
  obtain ⟨-, -, -, hnamed, -, -, -, hat⟩ := (Spec.applies_iff hf).mp happ
  obtain ⟨hg, hn⟩ := and_e (Cond.before_iff.mp (show (Jvm.Cond.and given_1 narrow_1).before args s = true from hpre))
  obtain ⟨g0, hg⟩ := and_e hg
  have ga0 := hg
  obtain ⟨w0, rfl⟩ : ∃ w0 : Value, args = #[w0] := by
    have hs : args.size = 1 := by simpa [Cond.value, given_1] using g0
    obtain ⟨L⟩ := args
    match L, hs with
    | [w0], _ => exact ⟨w0, rfl⟩
  have hw := fun d (hd : d ∈ tables_1) => atoms_spec (ws := Jvm.Cond.code x code maxLocals ret :: tables_1) hat d (List.mem_cons_of_mem _ hd)
  have hfit : Fit s := fun {y c} hc i hi => by
    obtain ⟨ha, rfl⟩ := Array.getElem?_eq_some_iff.mp hc
    have q := List.all_eq_true.mp ((Array.all_eq_true_iff_forall_mem.mp hF) _ (Array.getElem_mem ha)) i (List.mem_range.mpr hi)
    simpa [Array.getElem?_eq_getElem hi] using q
  obtain ⟨i0, ei0⟩ := isL_v ga0
  obtain rfl : w0 = (.long i0) := Option.some.inj ei0
  obtain ⟨n, o, h1, h2, h3, v, L, rfl, hQ, hq⟩ := rm0 l s _ hw tables_1 i0  s.heap s.heap.size (Nat.le_refl _)  p e ha hc hk s m _ below hf ((Spec.applies_iff_loose hf).mp happ).1 ⟨rfl, State.Warmed39.refl s, rfl⟩ trivial
  obtain ⟨hv, N⟩ := hQ
  rw [law_true i0] at hv
  subst hv
  refine ⟨n, _, h1, h2, h3, hpost _ _ _ _ _ _ ⟨Cond.after_iff.mpr rfl, Cond.after_iff.mpr (eq_i res_at (Term.int_eval (1)) rfl), trivial⟩ ⟨hq.1, hq.2.1, (hq.2.2.sift fun y hy => Or.inr (N y hy)).mono (by decide) (by decide)⟩⟩
theorem main_1_1 : Claimed_1_1 := comes_1 fun _ _ _ _ _ _ h hF => ⟨h.1, hF⟩
theorem main_1_2 : Claimed_1_2 := comes_1 fun _ _ _ _ _ _ h hF => ⟨h.2.1, hF⟩
end Jvm.Pilot.@@N@@
namespace Jvm.Pilot.@@N@@
open Jvm Jvm.ClassFile Sem Op Lib Jvm.Free Jvm.Stand Jvm.Pilot.@@N@@.Jvm.D
/-! MADE BY PROGRAM (witnessworld.py) out of the Statement's table words and the real class files: 7 classes; the members and pool entries that the words name. The judged class is class 1, her method 3. -/
namespace start1
open Jvm.ClassFile
def u (s : String) : CpInfo := .utf8 (stringToUtf16 s)
/-- a pool by its gaps: so many unusable entries, then the entry; so many at the end -/
def gap : Nat → List CpInfo → List CpInfo
  | 0, r => r
  | n + 1, r => .unusable :: gap n r
def poolList (es : List (Nat × CpInfo)) (last : Nat) : List CpInfo := es.foldr (fun e r => gap e.1 (e.2 :: r)) (gap last [])
def pool (es : List (Nat × CpInfo)) (last : Nat) : Array CpInfo := ⟨poolList es last⟩
def fileOf (pool : Array CpInfo) (this : Nat) (attrs : Array Attribute := #[]) (ms : Array MethodInfo := #[]) (fl : Nat := 33) (sup : Nat := 0) (ifs : Array Nat := #[]) (fds : Array FieldInfo := #[]) : ClassFile where
  minorVersion := 0
  majorVersion := 65
  constantPool := pool
  accessFlags := fl
  thisClass := this
  superClass := sup
  interfaces := ifs
  fields := fds
  methods := ms
  attributes := attrs
def plain (name : String) (sup : Option ClassId) : Class where
  name := name
  kind := .ordinary
  loader := none
  accessFlags := 33
  super := sup
  interfaces := #[]
  cf := none
  fields := #[]
  methods := #[]
  instanceTypes := #[]
  staticTypes := #[]
  resolved := #[]
  callSites := []
  init := .initialized
  statics := none
  mirror := none

def pool0 : Array CpInfo := pool [(5, u "<init>"), (0, u "()V"), (1, .class_ 10), (1, u "java/lang/Object")] 113

def k0c0 : Code := { maxStack := 0, maxLocals := 1, code := object_method_1_code, exceptionTable := #[], attributes := #[] }
def k0m0 : Method := { name := "<init>", desc := "()V", sig := { parameters := [], returnType := none }, accessFlags := 1, code := some k0c0 }
/-- java/lang/Object -/
def k0 : Class := { plain "java/lang/Object" none with
  accessFlags := 33
  interfaces := #[]
  cf := some (fileOf pool0 8 #[] #[{ accessFlags := 1, nameIndex := 5, descriptorIndex := 6, attributes := #[] }] 33 0 #[] #[])
  fields := #[]
  methods := #[k0m0]
  instanceTypes := #[]
  staticTypes := #[]
  resolved := Array.replicate 124 none
  statics := none }

def pool1 : Array CpInfo := pool [(2, .class_ 4), (1, u "java/lang/Object"), (0, u "<init>"), (0, u "()V"), (0, .long 2), (1, .long 10723151780598845931), (1, .methodref 12 13), (0, .class_ 14), (0, .nameAndType 15 16), (0, u "com/example/hertzbid/hertzbid/SeededRandomNextLongPinLaw"), (0, u "inverse"), (0, u "(J)J"), (0, .long 13787848793156543929), (1, .class_ 20), (0, u "com/example/hertzbid/hertzbid/SeededRandom"), (0, .methodref 19 22), (0, .nameAndType 5 23), (0, u "(J)V"), (0, .methodref 19 25), (0, .nameAndType 26 27), (0, u "nextLong"), (0, u "()J"), (0, .methodref 12 29), (0, .nameAndType 30 16), (0, u "unmix"), (0, .long 11400714819323198485), (1, .long 4354685564936845354), (1, u "GAMMA"), (0, u "J"), (3, u "law"), (0, u "(J)Z")] 3

def k1m0 : Method := { name := "<init>", desc := "()V", sig := { parameters := [], returnType := none }, accessFlags := 1, code := none }
def k1c1 : Code := { maxStack := 8, maxLocals := 4, code := method_2_code, exceptionTable := #[], attributes := #[] }
def k1m1 : Method := { name := "inverse", desc := "(J)J", sig := { parameters := [.long], returnType := some .long }, accessFlags := 10, code := some k1c1 }
def k1c2 : Code := { maxStack := 5, maxLocals := 10, code := method_3_code, exceptionTable := #[], attributes := #[] }
def k1m2 : Method := { name := "unmix", desc := "(J)J", sig := { parameters := [.long], returnType := some .long }, accessFlags := 10, code := some k1c2 }
def k1c3 : Code := { maxStack := 6, maxLocals := 7, code := code, exceptionTable := #[], attributes := #[] }
def k1m3 : Method := { name := "law", desc := "(J)Z", sig := { parameters := [.long], returnType := some .boolean }, accessFlags := 9, code := some k1c3 }
/-- com/example/hertzbid/hertzbid/SeededRandomNextLongPinLaw -/
def k1 : Class := { plain "com/example/hertzbid/hertzbid/SeededRandomNextLongPinLaw" (some 0) with
  accessFlags := 49
  interfaces := #[]
  cf := some (fileOf pool1 12 #[] #[{ accessFlags := 1, nameIndex := 5, descriptorIndex := 6, attributes := #[] }, { accessFlags := 10, nameIndex := 15, descriptorIndex := 16, attributes := #[] }, { accessFlags := 10, nameIndex := 30, descriptorIndex := 16, attributes := #[] }, { accessFlags := 9, nameIndex := 40, descriptorIndex := 41, attributes := #[] }] 49 2 #[] #[{ accessFlags := 26, nameIndex := 35, descriptorIndex := 36, attributes := #[] }])
  fields := #[{ name := "GAMMA", type := .long, accessFlags := 26, slot := 0, constantValue := 0 }]
  methods := #[k1m0, k1m1, k1m2, k1m3]
  instanceTypes := #[]
  staticTypes := #[.long]
  resolved := Array.replicate 45 none
  statics := none }

def pool2 : Array CpInfo := pool [(1, .methodref 2 3), (0, .class_ 4), (0, .nameAndType 5 6), (0, u "java/lang/Object"), (0, u "<init>"), (0, u "()V"), (0, .fieldref 8 9), (0, .class_ 10), (0, .nameAndType 11 12), (0, u "com/example/hertzbid/hertzbid/SeededRandom"), (0, u "state"), (0, u "J"), (0, .long 11400714819323198485), (1, .long 13787848793156543929), (1, .long 10723151780598845931), (18, u "nextLong"), (0, u "()J"), (4, u "GAMMA"), (1, u "(J)V")] 22

def k2c0 : Code := { maxStack := 3, maxLocals := 3, code := prog_37_method_1_code, exceptionTable := #[], attributes := #[] }
def k2m0 : Method := { name := "<init>", desc := "(J)V", sig := { parameters := [.long], returnType := none }, accessFlags := 0, code := some k2c0 }
def k2c1 : Code := { maxStack := 5, maxLocals := 3, code := prog_37_method_2_code, exceptionTable := #[], attributes := #[] }
def k2m1 : Method := { name := "nextLong", desc := "()J", sig := { parameters := [], returnType := some .long }, accessFlags := 0, code := some k2c1 }
/-- com/example/hertzbid/hertzbid/SeededRandom -/
def k2 : Class := { plain "com/example/hertzbid/hertzbid/SeededRandom" (some 0) with
  accessFlags := 48
  interfaces := #[]
  cf := some (fileOf pool2 8 #[] #[{ accessFlags := 0, nameIndex := 5, descriptorIndex := 44, attributes := #[] }, { accessFlags := 0, nameIndex := 36, descriptorIndex := 37, attributes := #[] }] 48 2 #[] #[{ accessFlags := 26, nameIndex := 42, descriptorIndex := 12, attributes := #[] }, { accessFlags := 2, nameIndex := 11, descriptorIndex := 12, attributes := #[] }])
  fields := #[{ name := "GAMMA", type := .long, accessFlags := 26, slot := 0, constantValue := 0 }, { name := "state", type := .long, accessFlags := 2, slot := 0, constantValue := 0 }]
  methods := #[k2m0, k2m1]
  instanceTypes := #[.long]
  staticTypes := #[.long]
  resolved := Array.replicate 67 none
  statics := none }

def pool3 : Array CpInfo := pool [(1, u "java/lang/Cloneable"), (0, .class_ 1), (0, u "java/lang/Object"), (0, .class_ 3)] 3

/-- java/lang/Cloneable -/
def k3 : Class := { plain "java/lang/Cloneable" (some 0) with
  accessFlags := 1537
  interfaces := #[]
  cf := some (fileOf pool3 2 #[] #[] 1537 4 #[] #[])
  fields := #[]
  methods := #[]
  instanceTypes := #[]
  staticTypes := #[]
  resolved := Array.replicate 8 none
  statics := none }

def pool4 : Array CpInfo := pool [(1, u "java/io/Serializable"), (0, .class_ 1), (0, u "java/lang/Object"), (0, .class_ 3)] 3

/-- java/io/Serializable -/
def k4 : Class := { plain "java/io/Serializable" (some 0) with
  accessFlags := 1537
  interfaces := #[]
  cf := some (fileOf pool4 2 #[] #[] 1537 4 #[] #[])
  fields := #[]
  methods := #[]
  instanceTypes := #[]
  staticTypes := #[]
  resolved := Array.replicate 8 none
  statics := none }

/-- the primitive byte -/
def k5 : Class := { plain "byte" none with kind := .primitive 'B', accessFlags := 0x411 }
/-- [B -/
def k6 : Class := { plain "[B" (some 0) with kind := .array 5 .byte, interfaces := #[3, 4], accessFlags := 1041 }

def heap : Heap := #[]
def classes : Array Class := #[k0, k1, k2, k3, k4, k5, k6]
def interned : List (Array UInt16 × Addr) := []
def slotsUsed : Nat := 0
def theMethod : MethodId := ⟨1, 3⟩
def args0 : Array Value := #[.long 5]
def aboutOver (below : List Frame) : State where
  vm := { classes := classes, interned := interned.toArray }
  heap := heap
  slotsUsed := slotsUsed
  threads := #[{ frames := .invoking theMethod args0 :: below }]
def below0 : List Frame := [.native { method := ⟨0, 0⟩, args := #[] }]
def about1 : State := aboutOver below0
def p0 : Program := .bare "" "" ""
def e0 : Env := launch0.env 0 0 0
theorem w_frames : about1.frames = Frame.invoking theMethod args0 :: below0 := rfl
set_option maxRecDepth 65536 in
theorem w_args : argsFit about1.vm theMethod args0 = true := by decide +kernel
set_option maxRecDepth 65536 in
theorem w_heap : heapFits about1 = true := by decide +kernel
set_option maxRecDepth 65536 in
theorem w_runnable : about1.curStatus? = some .runnable := by decide +kernel
set_option maxRecDepth 65536 in
theorem w_alone : about1.alone = true := by decide +kernel
set_option maxRecDepth 65536 in
theorem w_named : about1.methodNamed? x = some theMethod := by decide +kernel
set_option maxRecDepth 65536 in
theorem w_hears : about1.hears theMethod below0 = true := by decide +kernel
set_option maxRecDepth 65536 in
theorem w_ripe : about1.ripe theMethod args0 below0 = true := by decide +kernel
theorem w_running : about1.status = .running := rfl
set_option maxRecDepth 65536 in
theorem w_room : about1.hasRoom e0.platform room_1 = true :=
  launch0.hasRoom_least _ room_1 (by decide +kernel) (by decide +kernel) (by decide +kernel) (by decide +kernel) (by decide +kernel) (by decide +kernel)
theorem allAtoms_all (ts : List Jvm.Cond) (a : Array Jvm.Value) (st : Jvm.State) : (allAtoms ts).before a st = ts.all (fun c => c.before a st) := by
  induction ts with
  | nil => rfl
  | cons c t ih =>
    show (Jvm.Cond.and c (allAtoms t)).before a st = _
    rw [Jvm.Cond.before_and, ih, List.all_cons]
def words1 : List Jvm.Cond := Jvm.Cond.code x code maxLocals ret :: tables_1
/-- a 'code' word, met by the world's own term for the bytes: nothing is compared byte by byte -/
theorem code_word {y : MethodName} {bytes : ByteArray} {mx : Nat} {rt : Option FieldType} {a : Array Value} {s : State} {m : MethodId} {meth : Method} {c : Code} (h1 : s.methodNamed? y = some m) (h2 : s.vm.method? m = some meth) (h3 : meth.code = some c) (h4 : c.code = bytes)
    (h5 : (c.maxLocals == mx && c.exceptionTable.isEmpty && decide (c.maxStack ≤ mostOperands) && decide (meth.sig.returnType = rt) && !meth.locks && decide (parseMethodDescriptor y.desc = some meth.sig)) = true) : (Jvm.Cond.code y bytes mx rt).before a s = true := by
  simp only [Bool.and_eq_true, beq_iff_eq, Bool.not_eq_true', decide_eq_true_eq] at h5
  obtain ⟨⟨⟨⟨⟨g1, g2⟩, g3⟩, g4⟩, g5⟩, g6⟩ := h5
  simp [Cond.before, Cond.holds, Cond.value, h1, h2, h3, h4, g1, g2, g3, g4, g5, g6]
def isCode : Jvm.Cond → Bool
  | .code _ _ _ _ => true
  | _ => false
theorem all_split {L : List Jvm.Cond} {P : Jvm.Cond → Bool} (h1 : L.all (fun c => isCode c || P c) = true) (h2 : ∀ c ∈ L.filter isCode, P c = true) : L.all P = true := by
  refine List.all_eq_true.mpr fun c hc => ?_
  have h := List.all_eq_true.mp h1 c hc
  rcases Bool.eq_false_or_eq_true (isCode c) with hi | hi
  · exact h2 c (List.mem_filter.mpr ⟨hc, hi⟩)
  · simpa [hi] using h
set_option maxRecDepth 65536 in
theorem w_c0 : (Jvm.Cond.code x code maxLocals ret).before args0 about1 = true := code_word (m := ⟨1, 3⟩) (meth := k1m3) (c := k1c3) (by decide +kernel) rfl rfl rfl (by decide +kernel)
set_option maxRecDepth 65536 in
theorem w_c1 : (Jvm.Cond.code ({ cls := "com/example/hertzbid/hertzbid/SeededRandom", name := "<init>", desc := "(J)V" } : Jvm.MethodName) prog_37_method_1_code (3 : Nat) (Option.none : Option Jvm.ClassFile.FieldType)).before args0 about1 = true := code_word (m := ⟨2, 0⟩) (meth := k2m0) (c := k2c0) (by decide +kernel) rfl rfl rfl (by decide +kernel)
set_option maxRecDepth 65536 in
theorem w_c2 : (Jvm.Cond.code ({ cls := "java/lang/Object", name := "<init>", desc := "()V" } : Jvm.MethodName) object_method_1_code (1 : Nat) (Option.none : Option Jvm.ClassFile.FieldType)).before args0 about1 = true := code_word (m := ⟨0, 0⟩) (meth := k0m0) (c := k0c0) (by decide +kernel) rfl rfl rfl (by decide +kernel)
set_option maxRecDepth 65536 in
theorem w_c3 : (Jvm.Cond.code ({ cls := "com/example/hertzbid/hertzbid/SeededRandom", name := "nextLong", desc := "()J" } : Jvm.MethodName) prog_37_method_2_code (3 : Nat) (Option.some Jvm.ClassFile.FieldType.long)).before args0 about1 = true := code_word (m := ⟨2, 1⟩) (meth := k2m1) (c := k2c1) (by decide +kernel) rfl rfl rfl (by decide +kernel)
set_option maxRecDepth 65536 in
theorem w_c4 : (Jvm.Cond.code ({ cls := "com/example/hertzbid/hertzbid/SeededRandomNextLongPinLaw", name := "unmix", desc := "(J)J" } : Jvm.MethodName) method_3_code (10 : Nat) (Option.some Jvm.ClassFile.FieldType.long)).before args0 about1 = true := code_word (m := ⟨1, 2⟩) (meth := k1m2) (c := k1c2) (by decide +kernel) rfl rfl rfl (by decide +kernel)
set_option maxRecDepth 65536 in
theorem w_c5 : (Jvm.Cond.code ({ cls := "com/example/hertzbid/hertzbid/SeededRandomNextLongPinLaw", name := "inverse", desc := "(J)J" } : Jvm.MethodName) method_2_code (4 : Nat) (Option.some Jvm.ClassFile.FieldType.long)).before args0 about1 = true := code_word (m := ⟨1, 1⟩) (meth := k1m1) (c := k1c1) (by decide +kernel) rfl rfl rfl (by decide +kernel)
def codes1 : List Jvm.Cond := [Jvm.Cond.code x code maxLocals ret, Jvm.Cond.code ({ cls := "com/example/hertzbid/hertzbid/SeededRandom", name := "<init>", desc := "(J)V" } : Jvm.MethodName) prog_37_method_1_code (3 : Nat) (Option.none : Option Jvm.ClassFile.FieldType), Jvm.Cond.code ({ cls := "java/lang/Object", name := "<init>", desc := "()V" } : Jvm.MethodName) object_method_1_code (1 : Nat) (Option.none : Option Jvm.ClassFile.FieldType), Jvm.Cond.code ({ cls := "com/example/hertzbid/hertzbid/SeededRandom", name := "nextLong", desc := "()J" } : Jvm.MethodName) prog_37_method_2_code (3 : Nat) (Option.some Jvm.ClassFile.FieldType.long), Jvm.Cond.code ({ cls := "com/example/hertzbid/hertzbid/SeededRandomNextLongPinLaw", name := "unmix", desc := "(J)J" } : Jvm.MethodName) method_3_code (10 : Nat) (Option.some Jvm.ClassFile.FieldType.long), Jvm.Cond.code ({ cls := "com/example/hertzbid/hertzbid/SeededRandomNextLongPinLaw", name := "inverse", desc := "(J)J" } : Jvm.MethodName) method_2_code (4 : Nat) (Option.some Jvm.ClassFile.FieldType.long)]
set_option maxRecDepth 65536 in
theorem codes_eq : words1.filter isCode = codes1 := rfl
theorem w_codes : ∀ c ∈ words1.filter isCode, c.before args0 about1 = true := by
  rw [codes_eq]
  intro c hc
  simp only [codes1, List.mem_cons, List.not_mem_nil, or_false] at hc
  rcases hc with rfl | rfl | rfl | rfl | rfl | rfl
  · exact w_c0
  · exact w_c1
  · exact w_c2
  · exact w_c3
  · exact w_c4
  · exact w_c5
set_option maxRecDepth 65536 in
theorem w_t1 : (words1.take 24).all (fun c => isCode c || c.before args0 about1) = true := by decide +kernel
set_option maxRecDepth 65536 in
theorem w_t2 : (words1.drop 24).all (fun c => isCode c || c.before args0 about1) = true := by decide +kernel
theorem w_tables : (allAtoms (Jvm.Cond.code x code maxLocals ret :: tables_1)).before args0 about1 = true := by
  rw [allAtoms_all]
  show words1.all (fun c => c.before args0 about1) = true
  refine all_split ?_ w_codes
  rw [← List.take_append_drop 24 words1, List.all_append, w_t1, w_t2]
  rfl
set_option maxRecDepth 65536 in
theorem w_case : (Jvm.Cond.and given_1 narrow_1).before args0 about1 = true := by decide +kernel
theorem w_applies : (headSpec (Jvm.Cond.code x code maxLocals ret :: tables_1) room_1).applies x e0.platform about1 = true :=
  (Spec.applies_iff w_frames).mpr ⟨w_running, w_runnable, w_alone, w_named, w_hears, w_ripe, w_room, w_tables⟩
theorem atStart : AtStart classFile x code maxLocals ret World_1 tables_1 room_1 Calls_1 rest_1 Pre_1 launch0 p0 e0 about1 theMethod args0 below0 :=
  ⟨lists_1, trivial, launch0.admits_env _ _ _, launch0.least_env, fairChoices_fair.cas, fairChoices_fair.clock, w_frames, w_args, w_heap, w_applies, trivial, trivial, w_case⟩
end start1
theorem witness_1 : WitnessClaimed_1 := ⟨start1.p0, start1.e0, start1.about1, start1.theMethod, start1.args0, start1.below0, start1.atStart⟩
end Jvm.Pilot.@@N@@
