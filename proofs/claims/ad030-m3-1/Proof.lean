import JvmDerived
import JvmDerived.Pilot.@@N@@Statement
import JvmDerived.Pilot.@@N@@Code
set_option linter.unusedVariables false
set_option linter.unusedSimpArgs false
namespace Jvm.OwnKit
open Sem ClassFile Op Lib Jvm.Stand Jvm.Free Jvm.LawKit Jvm.RoadKit
/-- from S the run comes to a state of which Φ holds -/
def Go (p : Program) (e : Env) (below : List Frame) (Φ : State → Prop) (S : State) : Prop := ∃ u, Steps p.tables e below S u ∧ Φ u
theorem Go.step {p : Program} {e : Env} {below : List Frame} {Φ : State → Prop} {S S' : State} (h : ∀ t, Steps p.tables e below S' t → Steps p.tables e below S t) (k : Go p e below Φ S') : Go p e below Φ S := by
  obtain ⟨u, q, r⟩ := k
  exact ⟨u, h u q, r⟩
theorem Go.trans {p : Program} {e : Env} {below : List Frame} {Φ : State → Prop} {S S' : State} (h : Steps p.tables e below S S') (k : Go p e below Φ S') : Go p e below Φ S := by
  obtain ⟨u, q, r⟩ := k
  exact ⟨u, Steps.trans h q, r⟩
theorem Go.here {p : Program} {e : Env} {below : List Frame} {Φ : State → Prop} {S : State} (k : Φ S) : Go p e below Φ S := ⟨S, Steps.refl _, k⟩
/-- the end of a body -/
def FinQ (below : List Frame) (s : State) (Q : Option Value → Heap → List Loc → Prop) (k n : Nat) (u : State) : Prop :=
  ∃ o, u.status = .running ∧ Ended u below o ∧ ∃ v L, o = .returned v ∧ Q v u.heap L ∧ FrameEnd s o u L k n
theorem Go.done {p : Program} {e : Env} {below : List Frame} {s : State} {Q : Option Value → Heap → List Loc → Prop} {k n : Nat} {S : State} (h : Go p e below (FinQ below s Q k n) S) :
    ∃ s₂ o, Steps p.tables e below S s₂ ∧ s₂.status = .running ∧ Ended s₂ below o ∧ ∃ v L, o = .returned v ∧ Q v s₂.heap L ∧ FrameEnd s o s₂ L k n := by
  obtain ⟨u, q, o, r1, r2, r3⟩ := h
  exact ⟨u, o, q, r1, r2, r3⟩
section New
variable {p : Program} {l : Launch} {e : Env} {R : Room} {s : State} {m : MethodId} {args : Array Value} {below : List Frame} {meth : Method} {c : Code} {T : State} {locs : List Loc} {cells slots : Nat}
/-- the run stands at the frame F, in a heap h -/
def AtF (p : Program) (l : Launch) (e : Env) (R : Room) (s : State) (m : MethodId) (args : Array Value) (below : List Frame) (meth : Method) (c : Code) (n0 cells slots : Nat) (h : Heap) (F : JFrame) (u : State) : Prop :=
  ∃ T' locs', u = T'.setTop F ∧ Stand p l e R s m args below meth c T' locs' cells slots ∧ Fr n0 locs' ∧ T'.heap = h
theorem retG {pc : Nat} {Ls : Array Slot} {w : Value} {t : FieldType} {i : Instr} {rest : List Value} {Q : Option Value → Heap → List Loc → Prop} {k n : Nat}
    (X : Stand p l e R s m args below meth c T locs cells slots) (hx : p.tables.exec = Jvm.exec) (hlocks : meth.locks = false) (hret : meth.sig.returnType = some t) (hn : narrow t w = w)
    (hi : (i = .ireturn ∧ (t = .int ∨ t = .boolean ∨ t = .byte ∨ t = .char ∨ t = .short) ∧ ∃ z, w = .int z) ∨ (i = .lreturn ∧ t = .long ∧ ∃ z, w = .long z) ∨ (i = .dreturn ∧ t = .double ∧ ∃ z, w = .double z) ∨ (i = .freturn ∧ t = .float ∧ ∃ z, w = .float z) ∨ (i = .areturn ∧ t.isReference = true ∧ w.isRef = true))
    (hd : decode c.code pc = .ok (i, 1)) (hQ : Q (some w) T.heap locs) (hc : cells ≤ k) (hs : slots ≤ n) : Go p e below (FinQ below s Q k n) (T.setTop (mkF m pc Ls (w :: rest))) := by
  obtain ⟨fs, hr, hrun, hended, hW, hsame⟩ := X.leave (v := some w) (fun h => by rw [hret] at h; cases h) hlocks
  exact ⟨_, retOut X hx hret hn hi hd hr, _, hrun, hended, _, _, rfl, hQ, ⟨_, rfl⟩, hW, hsame.mono hc hs⟩
theorem retGI {pc : Nat} {Ls : Array Slot} {z : Int32} {rest : List Value} {Q : Option Value → Heap → List Loc → Prop} {k n : Nat}
    (X : Stand p l e R s m args below meth c T locs cells slots) (hx : p.tables.exec = Jvm.exec) (hlocks : meth.locks = false) (hret : meth.sig.returnType = some .int)
    (hd : decode c.code pc = .ok (.ireturn, 1)) (hQ : Q (some (.int z)) T.heap locs) (hc : cells ≤ k) (hs : slots ≤ n) : Go p e below (FinQ below s Q k n) (T.setTop (mkF m pc Ls (.int z :: rest))) :=
  retG X hx hlocks hret rfl (Or.inl ⟨rfl, Or.inl rfl, _, rfl⟩) hd hQ hc hs
theorem retGJ {pc : Nat} {Ls : Array Slot} {z : Int64} {rest : List Value} {Q : Option Value → Heap → List Loc → Prop} {k n : Nat}
    (X : Stand p l e R s m args below meth c T locs cells slots) (hx : p.tables.exec = Jvm.exec) (hlocks : meth.locks = false) (hret : meth.sig.returnType = some .long)
    (hd : decode c.code pc = .ok (.lreturn, 1)) (hQ : Q (some (.long z)) T.heap locs) (hc : cells ≤ k) (hs : slots ≤ n) : Go p e below (FinQ below s Q k n) (T.setTop (mkF m pc Ls (.long z :: rest))) :=
  retG X hx hlocks hret rfl (Or.inr (Or.inl ⟨rfl, rfl, _, rfl⟩)) hd hQ hc hs
theorem retGR {pc : Nat} {Ls : Array Slot} {a : Addr} {t : FieldType} {rest : List Value} {Q : Option Value → Heap → List Loc → Prop} {k n : Nat}
    (X : Stand p l e R s m args below meth c T locs cells slots) (hx : p.tables.exec = Jvm.exec) (hlocks : meth.locks = false) (hret : meth.sig.returnType = some t) (ht : t.isReference = true) (hn : narrow t (.ref a) = .ref a)
    (hd : decode c.code pc = .ok (.areturn, 1)) (hQ : Q (some (.ref a)) T.heap locs) (hc : cells ≤ k) (hs : slots ≤ n) : Go p e below (FinQ below s Q k n) (T.setTop (mkF m pc Ls (.ref a :: rest))) :=
  retG X hx hlocks hret hn (Or.inr (Or.inr (Or.inr (Or.inr ⟨rfl, ht, rfl⟩)))) hd hQ hc hs
theorem retGN {pc : Nat} {Ls : Array Slot} {z z' : Int32} {t : FieldType} {rest : List Value} {Q : Option Value → Heap → List Loc → Prop} {k n : Nat}
    (X : Stand p l e R s m args below meth c T locs cells slots) (hx : p.tables.exec = Jvm.exec) (hlocks : meth.locks = false) (hret : meth.sig.returnType = some t) (ht : t = .boolean ∨ t = .byte ∨ t = .char ∨ t = .short) (hz : nar t z = z')
    (hd : decode c.code pc = .ok (.ireturn, 1)) (hQ : Q (some (.int z')) T.heap locs) (hc : cells ≤ k) (hs : slots ≤ n) : Go p e below (FinQ below s Q k n) (T.setTop (mkF m pc Ls (.int z :: rest))) := by
  subst hz
  obtain ⟨fs, hr, hrun, hended, hW, hsame⟩ := X.leave (v := some (.int (nar t z))) (fun h => by rw [hret] at h; cases h) hlocks
  exact ⟨_, retN X hx hret ht hd hr, _, hrun, hended, _, _, rfl, hQ, ⟨_, rfl⟩, hW, hsame.mono hc hs⟩
theorem retGV {pc : Nat} {Ls : Array Slot} {Q : Option Value → Heap → List Loc → Prop} {k n : Nat}
    (X : Stand p l e R s m args below meth c T locs cells slots) (hx : p.tables.exec = Jvm.exec) (hlocks : meth.locks = false) (hret : meth.sig.returnType = none)
    (hd : decode c.code pc = .ok (.return_, 1)) (hQ : Q none T.heap locs) (hc : cells ≤ k) (hs : slots ≤ n) : Go p e below (FinQ below s Q k n) (T.setTop (mkF m pc Ls [])) := by
  obtain ⟨fs, hr, hrun, hended, hW, hsame⟩ := X.leave (v := none) (fun _ => rfl) hlocks
  exact ⟨_, X.returnOut hx hret hd hr, _, hrun, hended, _, _, rfl, hQ, ⟨_, rfl⟩, hW, hsame.mono hc hs⟩
end New
/-- a body that writes nothing and returns r -/
def QP (r : Value) (h0 : Heap) (n0 : Nat) (v : Option Value) (h : Heap) (L : List Loc) : Prop := v = some r ∧ Fr n0 L ∧ h = h0
def QV (h0 : Heap) (n0 : Nat) (v : Option Value) (h : Heap) (L : List Loc) : Prop := v = none ∧ Fr n0 L ∧ h = h0
/-- a law: it returns r and writes nothing old -/
def QL (r : Value) (n0 : Nat) (v : Option Value) (h : Heap) (L : List Loc) : Prop := v = some r ∧ Fr n0 L
theorem remI (x y : Int32) : x - (x / y) * y = x % y := by
  rw [← Int32.toInt_inj, Int32.toInt_sub, Int32.toInt_mul, Int32.toInt_div, Int32.toInt_mod]
  have h := Int.tmod_add_mul_tdiv x.toInt y.toInt
  have r : (x.toInt.tmod y.toInt).bmod (2 ^ 32) = x.toInt.tmod y.toInt := by
    have := Int32.toInt_bmod (x % y)
    rwa [Int32.toInt_mod] at this
  rw [← r]
  have e : ((x.toInt.tdiv y.toInt).bmod (2 ^ 32) * y.toInt).bmod (2 ^ 32) = (x.toInt.tdiv y.toInt * y.toInt).bmod (2 ^ 32) := by simp
  rw [e, Int.sub_bmod_bmod]
  congr 1
  have := Int.mul_comm (x.toInt.tdiv y.toInt) y.toInt
  omega
theorem addI {x y : Int32} (h1 : -2147483648 ≤ x.toInt + y.toInt) (h2 : x.toInt + y.toInt < 2147483648) : (x + y).toInt = x.toInt + y.toInt := by have := c_iadd x y; have := rng32 (x + y); omega
theorem subI {x y : Int32} (h1 : -2147483648 ≤ x.toInt - y.toInt) (h2 : x.toInt - y.toInt < 2147483648) : (x - y).toInt = x.toInt - y.toInt := by have := c_isub x y; have := rng32 (x - y); omega
theorem mulI {x y : Int32} (h1 : -2147483648 ≤ x.toInt * y.toInt) (h2 : x.toInt * y.toInt < 2147483648) : (x * y).toInt = x.toInt * y.toInt := by have := c_imul x y; have := rng32 (x * y); omega
theorem addL {x y : Int64} (h1 : -9223372036854775808 ≤ x.toInt + y.toInt) (h2 : x.toInt + y.toInt < 9223372036854775808) : (x + y).toInt = x.toInt + y.toInt := by have := c_ladd x y; have := rng64 (x + y); omega
theorem subL {x y : Int64} (h1 : -9223372036854775808 ≤ x.toInt - y.toInt) (h2 : x.toInt - y.toInt < 9223372036854775808) : (x - y).toInt = x.toInt - y.toInt := by have := c_lsub x y; have := rng64 (x - y); omega
theorem mulL {x y : Int64} (h1 : -9223372036854775808 ≤ x.toInt * y.toInt) (h2 : x.toInt * y.toInt < 9223372036854775808) : (x * y).toInt = x.toInt * y.toInt := by have := c_lmul x y; have := rng64 (x * y); omega
theorem modI {x y : Int32} (d : Int) (hy : y.toInt = d) (hx : 0 ≤ x.toInt) : (x % y).toInt = x.toInt % d := by rw [Int32.toInt_mod, hy]; exact (tr _ _).1 hx
theorem modL {x y : Int64} (d : Int) (hy : y.toInt = d) (hx : 0 ≤ x.toInt) : (x % y).toInt = x.toInt % d := by rw [Int64.toInt_mod, hy]; exact (tr _ _).1 hx
end Jvm.OwnKit
namespace Jvm.Pilot.@@N@@
open Jvm Jvm.ClassFile Sem Op Lib Jvm.Free Jvm.Stand Jvm.LawKit Jvm.RoadKit Jvm.OwnKit Bundle Jvm.Pilot.@@N@@.Jvm.D
theorem d1_0 : decode jdk_29_method_66_code 0 = .ok (.lload_n 0, 1) := by decide +kernel
theorem d1_1 : decode jdk_29_method_66_code 1 = .ok (.lload_n 2, 1) := by decide +kernel
theorem d1_2 : decode jdk_29_method_66_code 2 = .ok (.lcmp, 1) := by decide +kernel
theorem d1_3 : decode jdk_29_method_66_code 3 = .ok (.ifCond .lt 7, 3) := by decide +kernel
theorem d1_10 : decode jdk_29_method_66_code 10 = .ok (.lload_n 2, 1) := by decide +kernel
theorem d1_11 : decode jdk_29_method_66_code 11 = .ok (.lreturn, 1) := by decide +kernel
theorem d1_6 : decode jdk_29_method_66_code 6 = .ok (.lload_n 0, 1) := by decide +kernel
theorem d1_7 : decode jdk_29_method_66_code 7 = .ok (.goto 4, 3) := by decide +kernel
theorem ef_1 (m : MethodId) (q1 : Int64) (q2 : Int64) : entryFrame m #[(.long q1), (.long q2)] 4 = mkF m 0 #[.val (.long q1), .second, .val (.long q2), .second] [] := by first | (simp [entryFrame, mkF, argsToLocals, Value.category]; done) | rfl
def f1 (q1 : Int64) (q2 : Int64) : Int64 := (if q1 < q2 then q2 else q1)
set_option maxRecDepth 65536 in
set_option maxHeartbeats 40000000 in
theorem rm1 (l : Launch) (Z : State) (a0 : Array Value) (hw : ∀ d ∈ tables_1, d.before a0 Z = true) (ws : List Jvm.Cond) (q1 : Int64) (q2 : Int64) (h0 : Heap) (n0 : Nat) (Z0 : n0 ≤ h0.size) :
    MetFree l (⟨"java/lang/Math", "max", "(JJ)J"⟩ : MethodName) (head1 (Jvm.Cond.code (⟨"java/lang/Math", "max", "(JJ)J"⟩ : MethodName) jdk_29_method_66_code 4 (some .long) :: ws) ({ frames := 0, cells := 0, slots := 0, locals := 0 } : Room)) (fun a U => a = #[(.long q1), (.long q2)] ∧ Z.Warmed39 U.vm ∧ U.heap = h0) (fun _ _ _ _ _ => True) (fun _ U o U' => ∃ v L, o = .returned v ∧ QP (.long (f1 q1 q2)) h0 n0 v U'.heap L ∧ FrameEnd U o U' L ({ frames := 0, cells := 0, slots := 0, locals := 0 } : Room).cells ({ frames := 0, cells := 0, slots := 0, locals := 0 } : Room).slots) := by
  refine MetFree.of_bodySF (Jvm.Free.JP.mathPlain rfl (by decide +kernel)) hisR ?_
  intro p e s m args below meth c s₁ Bd hml0 hP hK
  obtain ⟨rfl, hZ, hh⟩ := hP
  have hx := Bd.exec
  have hby := Bd.bytes
  have hml : c.maxLocals = 4 := hml0
  have hown : s.vm.findClass "java/lang/Math" = some m.cls := findClass_of_methodNamed Bd.named
  have hnm := (name_of_methodNamed Bd.named Bd.method).1
  have X0 : Stand p l e ({ frames := 0, cells := 0, slots := 0, locals := 0 } : Room) s m #[(.long q1), (.long q2)] below meth c s₁ [] 0 0 := Stand.of_body Bd
  have e0 : s₁.heap = h0 := by rw [← hh, Bd.state]; rfl
  have N0 := Fr.nil n0
  refine Go.done (Go.step (fun t k => castTop (ef_1 m q1 q2) k) ?_)
  show Go p e below _ (s₁.setTop (mkF m 0 #[.val (.long q1), .second, .val (.long q2), .second] []))
  refine Go.step (fun t k => XS.lloadN X0.here hx rfl (hb hby d1_0) rfl k) ?_
  show Go p e below _ (s₁.setTop (mkF m 1 #[.val (.long q1), .second, .val (.long q2), .second] [(.long q1)]))
  refine Go.step (fun t k => XS.lloadN X0.here hx rfl (hb hby d1_1) rfl k) ?_
  show Go p e below _ (s₁.setTop (mkF m 2 #[.val (.long q1), .second, .val (.long q2), .second] [(.long q2), (.long q1)]))
  refine Go.step (fun t k => XS.lcmp X0.here hx rfl (hb hby d1_2) rfl k) ?_
  show Go p e below _ (s₁.setTop (mkF m 3 #[.val (.long q1), .second, .val (.long q2), .second] [(.int (lcmpW q1 q2))]))
  by_cases hc3 : q1 < q2
  · refine Go.step (fun t k => XS.ifYes X0.here hx rfl (pc0 := 3) (pc' := 10) rfl (hb hby d1_3) rfl ((if0 _ _).trans (tlt ((lw_lt _ _).mpr hc3)).1) (by decide) (by decide) k) ?_
    show Go p e below _ (s₁.setTop (mkF m 10 #[.val (.long q1), .second, .val (.long q2), .second] []))
    refine Go.step (fun t k => XS.lloadN X0.here hx rfl (hb hby d1_10) rfl k) ?_
    show Go p e below _ (s₁.setTop (mkF m 11 #[.val (.long q1), .second, .val (.long q2), .second] [(.long q2)]))
    exact retGJ X0 hx Bd.notSynchronized Bd.returns (hb hby d1_11) ⟨by first | (simp only [f1, if_pos hc3]; done) | rfl | (simp [f1, if_pos hc3]; done), N0, e0⟩ (by decide) (by decide)
  · refine Go.step (fun t k => XS.ifNo X0.here hx rfl (hb hby d1_3) rfl ((if0 _ _).trans (flt (fun q => hc3 ((lw_lt _ _).mp q))).1) k) ?_
    show Go p e below _ (s₁.setTop (mkF m 6 #[.val (.long q1), .second, .val (.long q2), .second] []))
    refine Go.step (fun t k => XS.lloadN X0.here hx rfl (hb hby d1_6) rfl k) ?_
    show Go p e below _ (s₁.setTop (mkF m 7 #[.val (.long q1), .second, .val (.long q2), .second] [(.long q1)]))
    refine Go.step (fun t k => XS.goto X0.here hx rfl (pc0 := 7) (pc' := 11) rfl (hb hby d1_7) (by decide) (by decide) k) ?_
    show Go p e below _ (s₁.setTop (mkF m 11 #[.val (.long q1), .second, .val (.long q2), .second] [(.long q1)]))
    exact retGJ X0 hx Bd.notSynchronized Bd.returns (hb hby d1_11) ⟨by first | (simp only [f1, if_neg hc3]; done) | rfl | (simp [f1, if_neg hc3]; done), N0, e0⟩ (by decide) (by decide)
theorem d2_0 : decode method_2_code 0 = .ok (.lload_n 0, 1) := by decide +kernel
theorem d2_1 : decode method_2_code 1 = .ok (.bipush 32, 2) := by decide +kernel
theorem d2_3 : decode method_2_code 3 = .ok (.lushr, 1) := by decide +kernel
theorem d2_4 : decode method_2_code 4 = .ok (.lstore 4, 2) := by decide +kernel
theorem d2_6 : decode method_2_code 6 = .ok (.lload_n 0, 1) := by decide +kernel
theorem d2_7 : decode method_2_code 7 = .ok (.ldc2_w 9, 3) := by decide +kernel
theorem d2_10 : decode method_2_code 10 = .ok (.land, 1) := by decide +kernel
theorem d2_11 : decode method_2_code 11 = .ok (.lstore 6, 2) := by decide +kernel
theorem d2_13 : decode method_2_code 13 = .ok (.lload_n 2, 1) := by decide +kernel
theorem d2_14 : decode method_2_code 14 = .ok (.bipush 32, 2) := by decide +kernel
theorem d2_16 : decode method_2_code 16 = .ok (.lushr, 1) := by decide +kernel
theorem d2_17 : decode method_2_code 17 = .ok (.lstore 8, 2) := by decide +kernel
theorem d2_19 : decode method_2_code 19 = .ok (.lload_n 2, 1) := by decide +kernel
theorem d2_20 : decode method_2_code 20 = .ok (.ldc2_w 9, 3) := by decide +kernel
theorem d2_23 : decode method_2_code 23 = .ok (.land, 1) := by decide +kernel
theorem d2_24 : decode method_2_code 24 = .ok (.lstore 10, 2) := by decide +kernel
theorem d2_26 : decode method_2_code 26 = .ok (.lload 6, 2) := by decide +kernel
theorem d2_28 : decode method_2_code 28 = .ok (.lload 10, 2) := by decide +kernel
theorem d2_30 : decode method_2_code 30 = .ok (.lmul, 1) := by decide +kernel
theorem d2_31 : decode method_2_code 31 = .ok (.lstore 12, 2) := by decide +kernel
theorem d2_33 : decode method_2_code 33 = .ok (.lload 4, 2) := by decide +kernel
theorem d2_35 : decode method_2_code 35 = .ok (.lload 10, 2) := by decide +kernel
theorem d2_37 : decode method_2_code 37 = .ok (.lmul, 1) := by decide +kernel
theorem d2_38 : decode method_2_code 38 = .ok (.lstore 14, 2) := by decide +kernel
theorem d2_40 : decode method_2_code 40 = .ok (.lload 6, 2) := by decide +kernel
theorem d2_42 : decode method_2_code 42 = .ok (.lload 8, 2) := by decide +kernel
theorem d2_44 : decode method_2_code 44 = .ok (.lmul, 1) := by decide +kernel
theorem d2_45 : decode method_2_code 45 = .ok (.lstore 16, 2) := by decide +kernel
theorem d2_47 : decode method_2_code 47 = .ok (.lload 4, 2) := by decide +kernel
theorem d2_49 : decode method_2_code 49 = .ok (.lload 8, 2) := by decide +kernel
theorem d2_51 : decode method_2_code 51 = .ok (.lmul, 1) := by decide +kernel
theorem d2_52 : decode method_2_code 52 = .ok (.lstore 18, 2) := by decide +kernel
theorem d2_54 : decode method_2_code 54 = .ok (.lload 12, 2) := by decide +kernel
theorem d2_56 : decode method_2_code 56 = .ok (.bipush 32, 2) := by decide +kernel
theorem d2_58 : decode method_2_code 58 = .ok (.lushr, 1) := by decide +kernel
theorem d2_59 : decode method_2_code 59 = .ok (.lload 14, 2) := by decide +kernel
theorem d2_61 : decode method_2_code 61 = .ok (.ldc2_w 9, 3) := by decide +kernel
theorem d2_64 : decode method_2_code 64 = .ok (.land, 1) := by decide +kernel
theorem d2_65 : decode method_2_code 65 = .ok (.ladd, 1) := by decide +kernel
theorem d2_66 : decode method_2_code 66 = .ok (.lload 16, 2) := by decide +kernel
theorem d2_68 : decode method_2_code 68 = .ok (.ldc2_w 9, 3) := by decide +kernel
theorem d2_71 : decode method_2_code 71 = .ok (.land, 1) := by decide +kernel
theorem d2_72 : decode method_2_code 72 = .ok (.ladd, 1) := by decide +kernel
theorem d2_73 : decode method_2_code 73 = .ok (.lstore 20, 2) := by decide +kernel
theorem d2_75 : decode method_2_code 75 = .ok (.lload 18, 2) := by decide +kernel
theorem d2_77 : decode method_2_code 77 = .ok (.lload 14, 2) := by decide +kernel
theorem d2_79 : decode method_2_code 79 = .ok (.bipush 32, 2) := by decide +kernel
theorem d2_81 : decode method_2_code 81 = .ok (.lushr, 1) := by decide +kernel
theorem d2_82 : decode method_2_code 82 = .ok (.ladd, 1) := by decide +kernel
theorem d2_83 : decode method_2_code 83 = .ok (.lload 16, 2) := by decide +kernel
theorem d2_85 : decode method_2_code 85 = .ok (.bipush 32, 2) := by decide +kernel
theorem d2_87 : decode method_2_code 87 = .ok (.lushr, 1) := by decide +kernel
theorem d2_88 : decode method_2_code 88 = .ok (.ladd, 1) := by decide +kernel
theorem d2_89 : decode method_2_code 89 = .ok (.lload 20, 2) := by decide +kernel
theorem d2_91 : decode method_2_code 91 = .ok (.bipush 32, 2) := by decide +kernel
theorem d2_93 : decode method_2_code 93 = .ok (.lushr, 1) := by decide +kernel
theorem d2_94 : decode method_2_code 94 = .ok (.ladd, 1) := by decide +kernel
theorem d2_95 : decode method_2_code 95 = .ok (.lreturn, 1) := by decide +kernel
theorem ef_2 (m : MethodId) (q1 : Int64) (q2 : Int64) : entryFrame m #[(.long q1), (.long q2)] 22 = mkF m 0 #[.val (.long q1), .second, .val (.long q2), .second, .unset, .unset, .unset, .unset, .unset, .unset, .unset, .unset, .unset, .unset, .unset, .unset, .unset, .unset, .unset, .unset, .unset, .unset] [] := by first | (simp [entryFrame, mkF, argsToLocals, Value.category]; done) | rfl
theorem pn_0 : plainName "com/example/arnero/arnero/HashSchemePlacePinLaw" = true := by first | (simp [plainName, overriddenIn]; done) | decide +kernel
def f2 (q1 : Int64) (q2 : Int64) : Int64 := ((((((q1.toUInt64 >>> ((32 : Int32) &&& 0x3f).toInt64.toUInt64).toInt64) * ((q2.toUInt64 >>> ((32 : Int32) &&& 0x3f).toInt64.toUInt64).toInt64)) + (((((q1.toUInt64 >>> ((32 : Int32) &&& 0x3f).toInt64.toUInt64).toInt64) * (q2 &&& (4294967295 : Int64))).toUInt64 >>> ((32 : Int32) &&& 0x3f).toInt64.toUInt64).toInt64)) + ((((q1 &&& (4294967295 : Int64)) * ((q2.toUInt64 >>> ((32 : Int32) &&& 0x3f).toInt64.toUInt64).toInt64)).toUInt64 >>> ((32 : Int32) &&& 0x3f).toInt64.toUInt64).toInt64)) + ((((((((q1 &&& (4294967295 : Int64)) * (q2 &&& (4294967295 : Int64))).toUInt64 >>> ((32 : Int32) &&& 0x3f).toInt64.toUInt64).toInt64) + ((((q1.toUInt64 >>> ((32 : Int32) &&& 0x3f).toInt64.toUInt64).toInt64) * (q2 &&& (4294967295 : Int64))) &&& (4294967295 : Int64))) + (((q1 &&& (4294967295 : Int64)) * ((q2.toUInt64 >>> ((32 : Int32) &&& 0x3f).toInt64.toUInt64).toInt64)) &&& (4294967295 : Int64))).toUInt64 >>> ((32 : Int32) &&& 0x3f).toInt64.toUInt64).toInt64))
set_option maxRecDepth 65536 in
set_option maxHeartbeats 40000000 in
theorem rm2 (l : Launch) (Z : State) (a0 : Array Value) (hw : ∀ d ∈ tables_1, d.before a0 Z = true) (ws : List Jvm.Cond) (q1 : Int64) (q2 : Int64) (h0 : Heap) (n0 : Nat) (Z0 : n0 ≤ h0.size) :
    MetFree l (⟨"com/example/arnero/arnero/HashSchemePlacePinLaw", "unsignedHigh", "(JJ)J"⟩ : MethodName) (head1 (Jvm.Cond.code (⟨"com/example/arnero/arnero/HashSchemePlacePinLaw", "unsignedHigh", "(JJ)J"⟩ : MethodName) method_2_code 22 (some .long) :: ws) ({ frames := 0, cells := 0, slots := 0, locals := 0 } : Room)) (fun a U => a = #[(.long q1), (.long q2)] ∧ Z.Warmed39 U.vm ∧ U.heap = h0) (fun _ _ _ _ _ => True) (fun _ U o U' => ∃ v L, o = .returned v ∧ QP (.long (f2 q1 q2)) h0 n0 v U'.heap L ∧ FrameEnd U o U' L ({ frames := 0, cells := 0, slots := 0, locals := 0 } : Room).cells ({ frames := 0, cells := 0, slots := 0, locals := 0 } : Room).slots) := by
  refine MetFree.of_bodySF (plainFor_of_name pn_0) hisR ?_
  intro p e s m args below meth c s₁ Bd hml0 hP hK
  obtain ⟨rfl, hZ, hh⟩ := hP
  have hx := Bd.exec
  have hby := Bd.bytes
  have hml : c.maxLocals = 22 := hml0
  have hown : s.vm.findClass "com/example/arnero/arnero/HashSchemePlacePinLaw" = some m.cls := findClass_of_methodNamed Bd.named
  have hnm := (name_of_methodNamed Bd.named Bd.method).1
  have X0 : Stand p l e ({ frames := 0, cells := 0, slots := 0, locals := 0 } : Room) s m #[(.long q1), (.long q2)] below meth c s₁ [] 0 0 := Stand.of_body Bd
  have e0 : s₁.heap = h0 := by rw [← hh, Bd.state]; rfl
  have N0 := Fr.nil n0
  refine Go.done (Go.step (fun t k => castTop (ef_2 m q1 q2) k) ?_)
  show Go p e below _ (s₁.setTop (mkF m 0 #[.val (.long q1), .second, .val (.long q2), .second, .unset, .unset, .unset, .unset, .unset, .unset, .unset, .unset, .unset, .unset, .unset, .unset, .unset, .unset, .unset, .unset, .unset, .unset] []))
  refine Go.step (fun t k => XS.lloadN X0.here hx rfl (hb hby d2_0) rfl k) ?_
  show Go p e below _ (s₁.setTop (mkF m 1 #[.val (.long q1), .second, .val (.long q2), .second, .unset, .unset, .unset, .unset, .unset, .unset, .unset, .unset, .unset, .unset, .unset, .unset, .unset, .unset, .unset, .unset, .unset, .unset] [(.long q1)]))
  refine Go.step (fun t k => XS.bipush X0.here hx rfl (hb hby d2_1)  k) ?_
  show Go p e below _ (s₁.setTop (mkF m 3 #[.val (.long q1), .second, .val (.long q2), .second, .unset, .unset, .unset, .unset, .unset, .unset, .unset, .unset, .unset, .unset, .unset, .unset, .unset, .unset, .unset, .unset, .unset, .unset] [(.int (32 : Int32)), (.long q1)]))
  refine Go.step (fun t k => XS.lushr X0.here hx rfl (hb hby d2_3) rfl k) ?_
  show Go p e below _ (s₁.setTop (mkF m 4 #[.val (.long q1), .second, .val (.long q2), .second, .unset, .unset, .unset, .unset, .unset, .unset, .unset, .unset, .unset, .unset, .unset, .unset, .unset, .unset, .unset, .unset, .unset, .unset] [(.long ((q1.toUInt64 >>> ((32 : Int32) &&& 0x3f).toInt64.toUInt64).toInt64))]))
  obtain ⟨v3, hv3⟩ : ∃ z : Int64, z = ((q1.toUInt64 >>> ((32 : Int32) &&& 0x3f).toInt64.toUInt64).toInt64) := ⟨_, rfl⟩
  rw [← hv3]
  show Go p e below _ (s₁.setTop (mkF m 4 #[.val (.long q1), .second, .val (.long q2), .second, .unset, .unset, .unset, .unset, .unset, .unset, .unset, .unset, .unset, .unset, .unset, .unset, .unset, .unset, .unset, .unset, .unset, .unset] [(.long v3)]))
  refine Go.step (fun t k => XS.lstore X0.here hx rfl (hb hby d2_4) rfl (l' := #[.val (.long q1), .second, .val (.long q2), .second, .val (.long v3), .second, .unset, .unset, .unset, .unset, .unset, .unset, .unset, .unset, .unset, .unset, .unset, .unset, .unset, .unset, .unset, .unset]) rfl k) ?_
  show Go p e below _ (s₁.setTop (mkF m 6 #[.val (.long q1), .second, .val (.long q2), .second, .val (.long v3), .second, .unset, .unset, .unset, .unset, .unset, .unset, .unset, .unset, .unset, .unset, .unset, .unset, .unset, .unset, .unset, .unset] []))
  refine Go.step (fun t k => XS.lloadN X0.here hx rfl (hb hby d2_6) rfl k) ?_
  show Go p e below _ (s₁.setTop (mkF m 7 #[.val (.long q1), .second, .val (.long q2), .second, .val (.long v3), .second, .unset, .unset, .unset, .unset, .unset, .unset, .unset, .unset, .unset, .unset, .unset, .unset, .unset, .unset, .unset, .unset] [(.long q1)]))
  refine Go.step (X0.ldc2Long hx hown (mvT hZ (hw _ (List.mem_of_getElem? (i := 10) rfl))) (g := (mkF m 7 #[.val (.long q1), .second, .val (.long q2), .second, .val (.long v3), .second, .unset, .unset, .unset, .unset, .unset, .unset, .unset, .unset, .unset, .unset, .unset, .unset, .unset, .unset, .unset, .unset] [(.long q1)])) rfl (hb hby d2_7)) ?_
  show Go p e below _ (s₁.setTop (mkF m 10 #[.val (.long q1), .second, .val (.long q2), .second, .val (.long v3), .second, .unset, .unset, .unset, .unset, .unset, .unset, .unset, .unset, .unset, .unset, .unset, .unset, .unset, .unset, .unset, .unset] [(.long (4294967295 : Int64)), (.long q1)]))
  refine Go.step (fun t k => XS.land X0.here hx rfl (hb hby d2_10) rfl k) ?_
  show Go p e below _ (s₁.setTop (mkF m 11 #[.val (.long q1), .second, .val (.long q2), .second, .val (.long v3), .second, .unset, .unset, .unset, .unset, .unset, .unset, .unset, .unset, .unset, .unset, .unset, .unset, .unset, .unset, .unset, .unset] [(.long (q1 &&& (4294967295 : Int64)))]))
  obtain ⟨v4, hv4⟩ : ∃ z : Int64, z = (q1 &&& (4294967295 : Int64)) := ⟨_, rfl⟩
  rw [← hv4]
  show Go p e below _ (s₁.setTop (mkF m 11 #[.val (.long q1), .second, .val (.long q2), .second, .val (.long v3), .second, .unset, .unset, .unset, .unset, .unset, .unset, .unset, .unset, .unset, .unset, .unset, .unset, .unset, .unset, .unset, .unset] [(.long v4)]))
  refine Go.step (fun t k => XS.lstore X0.here hx rfl (hb hby d2_11) rfl (l' := #[.val (.long q1), .second, .val (.long q2), .second, .val (.long v3), .second, .val (.long v4), .second, .unset, .unset, .unset, .unset, .unset, .unset, .unset, .unset, .unset, .unset, .unset, .unset, .unset, .unset]) rfl k) ?_
  show Go p e below _ (s₁.setTop (mkF m 13 #[.val (.long q1), .second, .val (.long q2), .second, .val (.long v3), .second, .val (.long v4), .second, .unset, .unset, .unset, .unset, .unset, .unset, .unset, .unset, .unset, .unset, .unset, .unset, .unset, .unset] []))
  refine Go.step (fun t k => XS.lloadN X0.here hx rfl (hb hby d2_13) rfl k) ?_
  show Go p e below _ (s₁.setTop (mkF m 14 #[.val (.long q1), .second, .val (.long q2), .second, .val (.long v3), .second, .val (.long v4), .second, .unset, .unset, .unset, .unset, .unset, .unset, .unset, .unset, .unset, .unset, .unset, .unset, .unset, .unset] [(.long q2)]))
  refine Go.step (fun t k => XS.bipush X0.here hx rfl (hb hby d2_14)  k) ?_
  show Go p e below _ (s₁.setTop (mkF m 16 #[.val (.long q1), .second, .val (.long q2), .second, .val (.long v3), .second, .val (.long v4), .second, .unset, .unset, .unset, .unset, .unset, .unset, .unset, .unset, .unset, .unset, .unset, .unset, .unset, .unset] [(.int (32 : Int32)), (.long q2)]))
  refine Go.step (fun t k => XS.lushr X0.here hx rfl (hb hby d2_16) rfl k) ?_
  show Go p e below _ (s₁.setTop (mkF m 17 #[.val (.long q1), .second, .val (.long q2), .second, .val (.long v3), .second, .val (.long v4), .second, .unset, .unset, .unset, .unset, .unset, .unset, .unset, .unset, .unset, .unset, .unset, .unset, .unset, .unset] [(.long ((q2.toUInt64 >>> ((32 : Int32) &&& 0x3f).toInt64.toUInt64).toInt64))]))
  obtain ⟨v5, hv5⟩ : ∃ z : Int64, z = ((q2.toUInt64 >>> ((32 : Int32) &&& 0x3f).toInt64.toUInt64).toInt64) := ⟨_, rfl⟩
  rw [← hv5]
  show Go p e below _ (s₁.setTop (mkF m 17 #[.val (.long q1), .second, .val (.long q2), .second, .val (.long v3), .second, .val (.long v4), .second, .unset, .unset, .unset, .unset, .unset, .unset, .unset, .unset, .unset, .unset, .unset, .unset, .unset, .unset] [(.long v5)]))
  refine Go.step (fun t k => XS.lstore X0.here hx rfl (hb hby d2_17) rfl (l' := #[.val (.long q1), .second, .val (.long q2), .second, .val (.long v3), .second, .val (.long v4), .second, .val (.long v5), .second, .unset, .unset, .unset, .unset, .unset, .unset, .unset, .unset, .unset, .unset, .unset, .unset]) rfl k) ?_
  show Go p e below _ (s₁.setTop (mkF m 19 #[.val (.long q1), .second, .val (.long q2), .second, .val (.long v3), .second, .val (.long v4), .second, .val (.long v5), .second, .unset, .unset, .unset, .unset, .unset, .unset, .unset, .unset, .unset, .unset, .unset, .unset] []))
  refine Go.step (fun t k => XS.lloadN X0.here hx rfl (hb hby d2_19) rfl k) ?_
  show Go p e below _ (s₁.setTop (mkF m 20 #[.val (.long q1), .second, .val (.long q2), .second, .val (.long v3), .second, .val (.long v4), .second, .val (.long v5), .second, .unset, .unset, .unset, .unset, .unset, .unset, .unset, .unset, .unset, .unset, .unset, .unset] [(.long q2)]))
  refine Go.step (X0.ldc2Long hx hown (mvT hZ (hw _ (List.mem_of_getElem? (i := 10) rfl))) (g := (mkF m 20 #[.val (.long q1), .second, .val (.long q2), .second, .val (.long v3), .second, .val (.long v4), .second, .val (.long v5), .second, .unset, .unset, .unset, .unset, .unset, .unset, .unset, .unset, .unset, .unset, .unset, .unset] [(.long q2)])) rfl (hb hby d2_20)) ?_
  show Go p e below _ (s₁.setTop (mkF m 23 #[.val (.long q1), .second, .val (.long q2), .second, .val (.long v3), .second, .val (.long v4), .second, .val (.long v5), .second, .unset, .unset, .unset, .unset, .unset, .unset, .unset, .unset, .unset, .unset, .unset, .unset] [(.long (4294967295 : Int64)), (.long q2)]))
  refine Go.step (fun t k => XS.land X0.here hx rfl (hb hby d2_23) rfl k) ?_
  show Go p e below _ (s₁.setTop (mkF m 24 #[.val (.long q1), .second, .val (.long q2), .second, .val (.long v3), .second, .val (.long v4), .second, .val (.long v5), .second, .unset, .unset, .unset, .unset, .unset, .unset, .unset, .unset, .unset, .unset, .unset, .unset] [(.long (q2 &&& (4294967295 : Int64)))]))
  obtain ⟨v6, hv6⟩ : ∃ z : Int64, z = (q2 &&& (4294967295 : Int64)) := ⟨_, rfl⟩
  rw [← hv6]
  show Go p e below _ (s₁.setTop (mkF m 24 #[.val (.long q1), .second, .val (.long q2), .second, .val (.long v3), .second, .val (.long v4), .second, .val (.long v5), .second, .unset, .unset, .unset, .unset, .unset, .unset, .unset, .unset, .unset, .unset, .unset, .unset] [(.long v6)]))
  refine Go.step (fun t k => XS.lstore X0.here hx rfl (hb hby d2_24) rfl (l' := #[.val (.long q1), .second, .val (.long q2), .second, .val (.long v3), .second, .val (.long v4), .second, .val (.long v5), .second, .val (.long v6), .second, .unset, .unset, .unset, .unset, .unset, .unset, .unset, .unset, .unset, .unset]) rfl k) ?_
  show Go p e below _ (s₁.setTop (mkF m 26 #[.val (.long q1), .second, .val (.long q2), .second, .val (.long v3), .second, .val (.long v4), .second, .val (.long v5), .second, .val (.long v6), .second, .unset, .unset, .unset, .unset, .unset, .unset, .unset, .unset, .unset, .unset] []))
  refine Go.step (fun t k => XS.lload X0.here hx rfl (hb hby d2_26) rfl k) ?_
  show Go p e below _ (s₁.setTop (mkF m 28 #[.val (.long q1), .second, .val (.long q2), .second, .val (.long v3), .second, .val (.long v4), .second, .val (.long v5), .second, .val (.long v6), .second, .unset, .unset, .unset, .unset, .unset, .unset, .unset, .unset, .unset, .unset] [(.long v4)]))
  refine Go.step (fun t k => XS.lload X0.here hx rfl (hb hby d2_28) rfl k) ?_
  show Go p e below _ (s₁.setTop (mkF m 30 #[.val (.long q1), .second, .val (.long q2), .second, .val (.long v3), .second, .val (.long v4), .second, .val (.long v5), .second, .val (.long v6), .second, .unset, .unset, .unset, .unset, .unset, .unset, .unset, .unset, .unset, .unset] [(.long v6), (.long v4)]))
  refine Go.step (fun t k => XS.lmul X0.here hx rfl (hb hby d2_30) rfl k) ?_
  show Go p e below _ (s₁.setTop (mkF m 31 #[.val (.long q1), .second, .val (.long q2), .second, .val (.long v3), .second, .val (.long v4), .second, .val (.long v5), .second, .val (.long v6), .second, .unset, .unset, .unset, .unset, .unset, .unset, .unset, .unset, .unset, .unset] [(.long (v4 * v6))]))
  refine Go.step (fun t k => XS.lstore X0.here hx rfl (hb hby d2_31) rfl (l' := #[.val (.long q1), .second, .val (.long q2), .second, .val (.long v3), .second, .val (.long v4), .second, .val (.long v5), .second, .val (.long v6), .second, .val (.long (v4 * v6)), .second, .unset, .unset, .unset, .unset, .unset, .unset, .unset, .unset]) rfl k) ?_
  show Go p e below _ (s₁.setTop (mkF m 33 #[.val (.long q1), .second, .val (.long q2), .second, .val (.long v3), .second, .val (.long v4), .second, .val (.long v5), .second, .val (.long v6), .second, .val (.long (v4 * v6)), .second, .unset, .unset, .unset, .unset, .unset, .unset, .unset, .unset] []))
  refine Go.step (fun t k => XS.lload X0.here hx rfl (hb hby d2_33) rfl k) ?_
  show Go p e below _ (s₁.setTop (mkF m 35 #[.val (.long q1), .second, .val (.long q2), .second, .val (.long v3), .second, .val (.long v4), .second, .val (.long v5), .second, .val (.long v6), .second, .val (.long (v4 * v6)), .second, .unset, .unset, .unset, .unset, .unset, .unset, .unset, .unset] [(.long v3)]))
  refine Go.step (fun t k => XS.lload X0.here hx rfl (hb hby d2_35) rfl k) ?_
  show Go p e below _ (s₁.setTop (mkF m 37 #[.val (.long q1), .second, .val (.long q2), .second, .val (.long v3), .second, .val (.long v4), .second, .val (.long v5), .second, .val (.long v6), .second, .val (.long (v4 * v6)), .second, .unset, .unset, .unset, .unset, .unset, .unset, .unset, .unset] [(.long v6), (.long v3)]))
  refine Go.step (fun t k => XS.lmul X0.here hx rfl (hb hby d2_37) rfl k) ?_
  show Go p e below _ (s₁.setTop (mkF m 38 #[.val (.long q1), .second, .val (.long q2), .second, .val (.long v3), .second, .val (.long v4), .second, .val (.long v5), .second, .val (.long v6), .second, .val (.long (v4 * v6)), .second, .unset, .unset, .unset, .unset, .unset, .unset, .unset, .unset] [(.long (v3 * v6))]))
  refine Go.step (fun t k => XS.lstore X0.here hx rfl (hb hby d2_38) rfl (l' := #[.val (.long q1), .second, .val (.long q2), .second, .val (.long v3), .second, .val (.long v4), .second, .val (.long v5), .second, .val (.long v6), .second, .val (.long (v4 * v6)), .second, .val (.long (v3 * v6)), .second, .unset, .unset, .unset, .unset, .unset, .unset]) rfl k) ?_
  show Go p e below _ (s₁.setTop (mkF m 40 #[.val (.long q1), .second, .val (.long q2), .second, .val (.long v3), .second, .val (.long v4), .second, .val (.long v5), .second, .val (.long v6), .second, .val (.long (v4 * v6)), .second, .val (.long (v3 * v6)), .second, .unset, .unset, .unset, .unset, .unset, .unset] []))
  refine Go.step (fun t k => XS.lload X0.here hx rfl (hb hby d2_40) rfl k) ?_
  show Go p e below _ (s₁.setTop (mkF m 42 #[.val (.long q1), .second, .val (.long q2), .second, .val (.long v3), .second, .val (.long v4), .second, .val (.long v5), .second, .val (.long v6), .second, .val (.long (v4 * v6)), .second, .val (.long (v3 * v6)), .second, .unset, .unset, .unset, .unset, .unset, .unset] [(.long v4)]))
  refine Go.step (fun t k => XS.lload X0.here hx rfl (hb hby d2_42) rfl k) ?_
  show Go p e below _ (s₁.setTop (mkF m 44 #[.val (.long q1), .second, .val (.long q2), .second, .val (.long v3), .second, .val (.long v4), .second, .val (.long v5), .second, .val (.long v6), .second, .val (.long (v4 * v6)), .second, .val (.long (v3 * v6)), .second, .unset, .unset, .unset, .unset, .unset, .unset] [(.long v5), (.long v4)]))
  refine Go.step (fun t k => XS.lmul X0.here hx rfl (hb hby d2_44) rfl k) ?_
  show Go p e below _ (s₁.setTop (mkF m 45 #[.val (.long q1), .second, .val (.long q2), .second, .val (.long v3), .second, .val (.long v4), .second, .val (.long v5), .second, .val (.long v6), .second, .val (.long (v4 * v6)), .second, .val (.long (v3 * v6)), .second, .unset, .unset, .unset, .unset, .unset, .unset] [(.long (v4 * v5))]))
  refine Go.step (fun t k => XS.lstore X0.here hx rfl (hb hby d2_45) rfl (l' := #[.val (.long q1), .second, .val (.long q2), .second, .val (.long v3), .second, .val (.long v4), .second, .val (.long v5), .second, .val (.long v6), .second, .val (.long (v4 * v6)), .second, .val (.long (v3 * v6)), .second, .val (.long (v4 * v5)), .second, .unset, .unset, .unset, .unset]) rfl k) ?_
  show Go p e below _ (s₁.setTop (mkF m 47 #[.val (.long q1), .second, .val (.long q2), .second, .val (.long v3), .second, .val (.long v4), .second, .val (.long v5), .second, .val (.long v6), .second, .val (.long (v4 * v6)), .second, .val (.long (v3 * v6)), .second, .val (.long (v4 * v5)), .second, .unset, .unset, .unset, .unset] []))
  refine Go.step (fun t k => XS.lload X0.here hx rfl (hb hby d2_47) rfl k) ?_
  show Go p e below _ (s₁.setTop (mkF m 49 #[.val (.long q1), .second, .val (.long q2), .second, .val (.long v3), .second, .val (.long v4), .second, .val (.long v5), .second, .val (.long v6), .second, .val (.long (v4 * v6)), .second, .val (.long (v3 * v6)), .second, .val (.long (v4 * v5)), .second, .unset, .unset, .unset, .unset] [(.long v3)]))
  refine Go.step (fun t k => XS.lload X0.here hx rfl (hb hby d2_49) rfl k) ?_
  show Go p e below _ (s₁.setTop (mkF m 51 #[.val (.long q1), .second, .val (.long q2), .second, .val (.long v3), .second, .val (.long v4), .second, .val (.long v5), .second, .val (.long v6), .second, .val (.long (v4 * v6)), .second, .val (.long (v3 * v6)), .second, .val (.long (v4 * v5)), .second, .unset, .unset, .unset, .unset] [(.long v5), (.long v3)]))
  refine Go.step (fun t k => XS.lmul X0.here hx rfl (hb hby d2_51) rfl k) ?_
  show Go p e below _ (s₁.setTop (mkF m 52 #[.val (.long q1), .second, .val (.long q2), .second, .val (.long v3), .second, .val (.long v4), .second, .val (.long v5), .second, .val (.long v6), .second, .val (.long (v4 * v6)), .second, .val (.long (v3 * v6)), .second, .val (.long (v4 * v5)), .second, .unset, .unset, .unset, .unset] [(.long (v3 * v5))]))
  refine Go.step (fun t k => XS.lstore X0.here hx rfl (hb hby d2_52) rfl (l' := #[.val (.long q1), .second, .val (.long q2), .second, .val (.long v3), .second, .val (.long v4), .second, .val (.long v5), .second, .val (.long v6), .second, .val (.long (v4 * v6)), .second, .val (.long (v3 * v6)), .second, .val (.long (v4 * v5)), .second, .val (.long (v3 * v5)), .second, .unset, .unset]) rfl k) ?_
  show Go p e below _ (s₁.setTop (mkF m 54 #[.val (.long q1), .second, .val (.long q2), .second, .val (.long v3), .second, .val (.long v4), .second, .val (.long v5), .second, .val (.long v6), .second, .val (.long (v4 * v6)), .second, .val (.long (v3 * v6)), .second, .val (.long (v4 * v5)), .second, .val (.long (v3 * v5)), .second, .unset, .unset] []))
  refine Go.step (fun t k => XS.lload X0.here hx rfl (hb hby d2_54) rfl k) ?_
  show Go p e below _ (s₁.setTop (mkF m 56 #[.val (.long q1), .second, .val (.long q2), .second, .val (.long v3), .second, .val (.long v4), .second, .val (.long v5), .second, .val (.long v6), .second, .val (.long (v4 * v6)), .second, .val (.long (v3 * v6)), .second, .val (.long (v4 * v5)), .second, .val (.long (v3 * v5)), .second, .unset, .unset] [(.long (v4 * v6))]))
  refine Go.step (fun t k => XS.bipush X0.here hx rfl (hb hby d2_56)  k) ?_
  show Go p e below _ (s₁.setTop (mkF m 58 #[.val (.long q1), .second, .val (.long q2), .second, .val (.long v3), .second, .val (.long v4), .second, .val (.long v5), .second, .val (.long v6), .second, .val (.long (v4 * v6)), .second, .val (.long (v3 * v6)), .second, .val (.long (v4 * v5)), .second, .val (.long (v3 * v5)), .second, .unset, .unset] [(.int (32 : Int32)), (.long (v4 * v6))]))
  refine Go.step (fun t k => XS.lushr X0.here hx rfl (hb hby d2_58) rfl k) ?_
  show Go p e below _ (s₁.setTop (mkF m 59 #[.val (.long q1), .second, .val (.long q2), .second, .val (.long v3), .second, .val (.long v4), .second, .val (.long v5), .second, .val (.long v6), .second, .val (.long (v4 * v6)), .second, .val (.long (v3 * v6)), .second, .val (.long (v4 * v5)), .second, .val (.long (v3 * v5)), .second, .unset, .unset] [(.long (((v4 * v6).toUInt64 >>> ((32 : Int32) &&& 0x3f).toInt64.toUInt64).toInt64))]))
  refine Go.step (fun t k => XS.lload X0.here hx rfl (hb hby d2_59) rfl k) ?_
  show Go p e below _ (s₁.setTop (mkF m 61 #[.val (.long q1), .second, .val (.long q2), .second, .val (.long v3), .second, .val (.long v4), .second, .val (.long v5), .second, .val (.long v6), .second, .val (.long (v4 * v6)), .second, .val (.long (v3 * v6)), .second, .val (.long (v4 * v5)), .second, .val (.long (v3 * v5)), .second, .unset, .unset] [(.long (v3 * v6)), (.long (((v4 * v6).toUInt64 >>> ((32 : Int32) &&& 0x3f).toInt64.toUInt64).toInt64))]))
  refine Go.step (X0.ldc2Long hx hown (mvT hZ (hw _ (List.mem_of_getElem? (i := 10) rfl))) (g := (mkF m 61 #[.val (.long q1), .second, .val (.long q2), .second, .val (.long v3), .second, .val (.long v4), .second, .val (.long v5), .second, .val (.long v6), .second, .val (.long (v4 * v6)), .second, .val (.long (v3 * v6)), .second, .val (.long (v4 * v5)), .second, .val (.long (v3 * v5)), .second, .unset, .unset] [(.long (v3 * v6)), (.long (((v4 * v6).toUInt64 >>> ((32 : Int32) &&& 0x3f).toInt64.toUInt64).toInt64))])) rfl (hb hby d2_61)) ?_
  show Go p e below _ (s₁.setTop (mkF m 64 #[.val (.long q1), .second, .val (.long q2), .second, .val (.long v3), .second, .val (.long v4), .second, .val (.long v5), .second, .val (.long v6), .second, .val (.long (v4 * v6)), .second, .val (.long (v3 * v6)), .second, .val (.long (v4 * v5)), .second, .val (.long (v3 * v5)), .second, .unset, .unset] [(.long (4294967295 : Int64)), (.long (v3 * v6)), (.long (((v4 * v6).toUInt64 >>> ((32 : Int32) &&& 0x3f).toInt64.toUInt64).toInt64))]))
  refine Go.step (fun t k => XS.land X0.here hx rfl (hb hby d2_64) rfl k) ?_
  show Go p e below _ (s₁.setTop (mkF m 65 #[.val (.long q1), .second, .val (.long q2), .second, .val (.long v3), .second, .val (.long v4), .second, .val (.long v5), .second, .val (.long v6), .second, .val (.long (v4 * v6)), .second, .val (.long (v3 * v6)), .second, .val (.long (v4 * v5)), .second, .val (.long (v3 * v5)), .second, .unset, .unset] [(.long ((v3 * v6) &&& (4294967295 : Int64))), (.long (((v4 * v6).toUInt64 >>> ((32 : Int32) &&& 0x3f).toInt64.toUInt64).toInt64))]))
  refine Go.step (fun t k => XS.ladd X0.here hx rfl (hb hby d2_65) rfl k) ?_
  show Go p e below _ (s₁.setTop (mkF m 66 #[.val (.long q1), .second, .val (.long q2), .second, .val (.long v3), .second, .val (.long v4), .second, .val (.long v5), .second, .val (.long v6), .second, .val (.long (v4 * v6)), .second, .val (.long (v3 * v6)), .second, .val (.long (v4 * v5)), .second, .val (.long (v3 * v5)), .second, .unset, .unset] [(.long ((((v4 * v6).toUInt64 >>> ((32 : Int32) &&& 0x3f).toInt64.toUInt64).toInt64) + ((v3 * v6) &&& (4294967295 : Int64))))]))
  refine Go.step (fun t k => XS.lload X0.here hx rfl (hb hby d2_66) rfl k) ?_
  show Go p e below _ (s₁.setTop (mkF m 68 #[.val (.long q1), .second, .val (.long q2), .second, .val (.long v3), .second, .val (.long v4), .second, .val (.long v5), .second, .val (.long v6), .second, .val (.long (v4 * v6)), .second, .val (.long (v3 * v6)), .second, .val (.long (v4 * v5)), .second, .val (.long (v3 * v5)), .second, .unset, .unset] [(.long (v4 * v5)), (.long ((((v4 * v6).toUInt64 >>> ((32 : Int32) &&& 0x3f).toInt64.toUInt64).toInt64) + ((v3 * v6) &&& (4294967295 : Int64))))]))
  refine Go.step (X0.ldc2Long hx hown (mvT hZ (hw _ (List.mem_of_getElem? (i := 10) rfl))) (g := (mkF m 68 #[.val (.long q1), .second, .val (.long q2), .second, .val (.long v3), .second, .val (.long v4), .second, .val (.long v5), .second, .val (.long v6), .second, .val (.long (v4 * v6)), .second, .val (.long (v3 * v6)), .second, .val (.long (v4 * v5)), .second, .val (.long (v3 * v5)), .second, .unset, .unset] [(.long (v4 * v5)), (.long ((((v4 * v6).toUInt64 >>> ((32 : Int32) &&& 0x3f).toInt64.toUInt64).toInt64) + ((v3 * v6) &&& (4294967295 : Int64))))])) rfl (hb hby d2_68)) ?_
  show Go p e below _ (s₁.setTop (mkF m 71 #[.val (.long q1), .second, .val (.long q2), .second, .val (.long v3), .second, .val (.long v4), .second, .val (.long v5), .second, .val (.long v6), .second, .val (.long (v4 * v6)), .second, .val (.long (v3 * v6)), .second, .val (.long (v4 * v5)), .second, .val (.long (v3 * v5)), .second, .unset, .unset] [(.long (4294967295 : Int64)), (.long (v4 * v5)), (.long ((((v4 * v6).toUInt64 >>> ((32 : Int32) &&& 0x3f).toInt64.toUInt64).toInt64) + ((v3 * v6) &&& (4294967295 : Int64))))]))
  refine Go.step (fun t k => XS.land X0.here hx rfl (hb hby d2_71) rfl k) ?_
  show Go p e below _ (s₁.setTop (mkF m 72 #[.val (.long q1), .second, .val (.long q2), .second, .val (.long v3), .second, .val (.long v4), .second, .val (.long v5), .second, .val (.long v6), .second, .val (.long (v4 * v6)), .second, .val (.long (v3 * v6)), .second, .val (.long (v4 * v5)), .second, .val (.long (v3 * v5)), .second, .unset, .unset] [(.long ((v4 * v5) &&& (4294967295 : Int64))), (.long ((((v4 * v6).toUInt64 >>> ((32 : Int32) &&& 0x3f).toInt64.toUInt64).toInt64) + ((v3 * v6) &&& (4294967295 : Int64))))]))
  refine Go.step (fun t k => XS.ladd X0.here hx rfl (hb hby d2_72) rfl k) ?_
  show Go p e below _ (s₁.setTop (mkF m 73 #[.val (.long q1), .second, .val (.long q2), .second, .val (.long v3), .second, .val (.long v4), .second, .val (.long v5), .second, .val (.long v6), .second, .val (.long (v4 * v6)), .second, .val (.long (v3 * v6)), .second, .val (.long (v4 * v5)), .second, .val (.long (v3 * v5)), .second, .unset, .unset] [(.long (((((v4 * v6).toUInt64 >>> ((32 : Int32) &&& 0x3f).toInt64.toUInt64).toInt64) + ((v3 * v6) &&& (4294967295 : Int64))) + ((v4 * v5) &&& (4294967295 : Int64))))]))
  obtain ⟨v7, hv7⟩ : ∃ z : Int64, z = (((((v4 * v6).toUInt64 >>> ((32 : Int32) &&& 0x3f).toInt64.toUInt64).toInt64) + ((v3 * v6) &&& (4294967295 : Int64))) + ((v4 * v5) &&& (4294967295 : Int64))) := ⟨_, rfl⟩
  rw [← hv7]
  show Go p e below _ (s₁.setTop (mkF m 73 #[.val (.long q1), .second, .val (.long q2), .second, .val (.long v3), .second, .val (.long v4), .second, .val (.long v5), .second, .val (.long v6), .second, .val (.long (v4 * v6)), .second, .val (.long (v3 * v6)), .second, .val (.long (v4 * v5)), .second, .val (.long (v3 * v5)), .second, .unset, .unset] [(.long v7)]))
  refine Go.step (fun t k => XS.lstore X0.here hx rfl (hb hby d2_73) rfl (l' := #[.val (.long q1), .second, .val (.long q2), .second, .val (.long v3), .second, .val (.long v4), .second, .val (.long v5), .second, .val (.long v6), .second, .val (.long (v4 * v6)), .second, .val (.long (v3 * v6)), .second, .val (.long (v4 * v5)), .second, .val (.long (v3 * v5)), .second, .val (.long v7), .second]) rfl k) ?_
  show Go p e below _ (s₁.setTop (mkF m 75 #[.val (.long q1), .second, .val (.long q2), .second, .val (.long v3), .second, .val (.long v4), .second, .val (.long v5), .second, .val (.long v6), .second, .val (.long (v4 * v6)), .second, .val (.long (v3 * v6)), .second, .val (.long (v4 * v5)), .second, .val (.long (v3 * v5)), .second, .val (.long v7), .second] []))
  refine Go.step (fun t k => XS.lload X0.here hx rfl (hb hby d2_75) rfl k) ?_
  show Go p e below _ (s₁.setTop (mkF m 77 #[.val (.long q1), .second, .val (.long q2), .second, .val (.long v3), .second, .val (.long v4), .second, .val (.long v5), .second, .val (.long v6), .second, .val (.long (v4 * v6)), .second, .val (.long (v3 * v6)), .second, .val (.long (v4 * v5)), .second, .val (.long (v3 * v5)), .second, .val (.long v7), .second] [(.long (v3 * v5))]))
  refine Go.step (fun t k => XS.lload X0.here hx rfl (hb hby d2_77) rfl k) ?_
  show Go p e below _ (s₁.setTop (mkF m 79 #[.val (.long q1), .second, .val (.long q2), .second, .val (.long v3), .second, .val (.long v4), .second, .val (.long v5), .second, .val (.long v6), .second, .val (.long (v4 * v6)), .second, .val (.long (v3 * v6)), .second, .val (.long (v4 * v5)), .second, .val (.long (v3 * v5)), .second, .val (.long v7), .second] [(.long (v3 * v6)), (.long (v3 * v5))]))
  refine Go.step (fun t k => XS.bipush X0.here hx rfl (hb hby d2_79)  k) ?_
  show Go p e below _ (s₁.setTop (mkF m 81 #[.val (.long q1), .second, .val (.long q2), .second, .val (.long v3), .second, .val (.long v4), .second, .val (.long v5), .second, .val (.long v6), .second, .val (.long (v4 * v6)), .second, .val (.long (v3 * v6)), .second, .val (.long (v4 * v5)), .second, .val (.long (v3 * v5)), .second, .val (.long v7), .second] [(.int (32 : Int32)), (.long (v3 * v6)), (.long (v3 * v5))]))
  refine Go.step (fun t k => XS.lushr X0.here hx rfl (hb hby d2_81) rfl k) ?_
  show Go p e below _ (s₁.setTop (mkF m 82 #[.val (.long q1), .second, .val (.long q2), .second, .val (.long v3), .second, .val (.long v4), .second, .val (.long v5), .second, .val (.long v6), .second, .val (.long (v4 * v6)), .second, .val (.long (v3 * v6)), .second, .val (.long (v4 * v5)), .second, .val (.long (v3 * v5)), .second, .val (.long v7), .second] [(.long (((v3 * v6).toUInt64 >>> ((32 : Int32) &&& 0x3f).toInt64.toUInt64).toInt64)), (.long (v3 * v5))]))
  refine Go.step (fun t k => XS.ladd X0.here hx rfl (hb hby d2_82) rfl k) ?_
  show Go p e below _ (s₁.setTop (mkF m 83 #[.val (.long q1), .second, .val (.long q2), .second, .val (.long v3), .second, .val (.long v4), .second, .val (.long v5), .second, .val (.long v6), .second, .val (.long (v4 * v6)), .second, .val (.long (v3 * v6)), .second, .val (.long (v4 * v5)), .second, .val (.long (v3 * v5)), .second, .val (.long v7), .second] [(.long ((v3 * v5) + (((v3 * v6).toUInt64 >>> ((32 : Int32) &&& 0x3f).toInt64.toUInt64).toInt64)))]))
  refine Go.step (fun t k => XS.lload X0.here hx rfl (hb hby d2_83) rfl k) ?_
  show Go p e below _ (s₁.setTop (mkF m 85 #[.val (.long q1), .second, .val (.long q2), .second, .val (.long v3), .second, .val (.long v4), .second, .val (.long v5), .second, .val (.long v6), .second, .val (.long (v4 * v6)), .second, .val (.long (v3 * v6)), .second, .val (.long (v4 * v5)), .second, .val (.long (v3 * v5)), .second, .val (.long v7), .second] [(.long (v4 * v5)), (.long ((v3 * v5) + (((v3 * v6).toUInt64 >>> ((32 : Int32) &&& 0x3f).toInt64.toUInt64).toInt64)))]))
  refine Go.step (fun t k => XS.bipush X0.here hx rfl (hb hby d2_85)  k) ?_
  show Go p e below _ (s₁.setTop (mkF m 87 #[.val (.long q1), .second, .val (.long q2), .second, .val (.long v3), .second, .val (.long v4), .second, .val (.long v5), .second, .val (.long v6), .second, .val (.long (v4 * v6)), .second, .val (.long (v3 * v6)), .second, .val (.long (v4 * v5)), .second, .val (.long (v3 * v5)), .second, .val (.long v7), .second] [(.int (32 : Int32)), (.long (v4 * v5)), (.long ((v3 * v5) + (((v3 * v6).toUInt64 >>> ((32 : Int32) &&& 0x3f).toInt64.toUInt64).toInt64)))]))
  refine Go.step (fun t k => XS.lushr X0.here hx rfl (hb hby d2_87) rfl k) ?_
  show Go p e below _ (s₁.setTop (mkF m 88 #[.val (.long q1), .second, .val (.long q2), .second, .val (.long v3), .second, .val (.long v4), .second, .val (.long v5), .second, .val (.long v6), .second, .val (.long (v4 * v6)), .second, .val (.long (v3 * v6)), .second, .val (.long (v4 * v5)), .second, .val (.long (v3 * v5)), .second, .val (.long v7), .second] [(.long (((v4 * v5).toUInt64 >>> ((32 : Int32) &&& 0x3f).toInt64.toUInt64).toInt64)), (.long ((v3 * v5) + (((v3 * v6).toUInt64 >>> ((32 : Int32) &&& 0x3f).toInt64.toUInt64).toInt64)))]))
  refine Go.step (fun t k => XS.ladd X0.here hx rfl (hb hby d2_88) rfl k) ?_
  show Go p e below _ (s₁.setTop (mkF m 89 #[.val (.long q1), .second, .val (.long q2), .second, .val (.long v3), .second, .val (.long v4), .second, .val (.long v5), .second, .val (.long v6), .second, .val (.long (v4 * v6)), .second, .val (.long (v3 * v6)), .second, .val (.long (v4 * v5)), .second, .val (.long (v3 * v5)), .second, .val (.long v7), .second] [(.long (((v3 * v5) + (((v3 * v6).toUInt64 >>> ((32 : Int32) &&& 0x3f).toInt64.toUInt64).toInt64)) + (((v4 * v5).toUInt64 >>> ((32 : Int32) &&& 0x3f).toInt64.toUInt64).toInt64)))]))
  refine Go.step (fun t k => XS.lload X0.here hx rfl (hb hby d2_89) rfl k) ?_
  show Go p e below _ (s₁.setTop (mkF m 91 #[.val (.long q1), .second, .val (.long q2), .second, .val (.long v3), .second, .val (.long v4), .second, .val (.long v5), .second, .val (.long v6), .second, .val (.long (v4 * v6)), .second, .val (.long (v3 * v6)), .second, .val (.long (v4 * v5)), .second, .val (.long (v3 * v5)), .second, .val (.long v7), .second] [(.long v7), (.long (((v3 * v5) + (((v3 * v6).toUInt64 >>> ((32 : Int32) &&& 0x3f).toInt64.toUInt64).toInt64)) + (((v4 * v5).toUInt64 >>> ((32 : Int32) &&& 0x3f).toInt64.toUInt64).toInt64)))]))
  refine Go.step (fun t k => XS.bipush X0.here hx rfl (hb hby d2_91)  k) ?_
  show Go p e below _ (s₁.setTop (mkF m 93 #[.val (.long q1), .second, .val (.long q2), .second, .val (.long v3), .second, .val (.long v4), .second, .val (.long v5), .second, .val (.long v6), .second, .val (.long (v4 * v6)), .second, .val (.long (v3 * v6)), .second, .val (.long (v4 * v5)), .second, .val (.long (v3 * v5)), .second, .val (.long v7), .second] [(.int (32 : Int32)), (.long v7), (.long (((v3 * v5) + (((v3 * v6).toUInt64 >>> ((32 : Int32) &&& 0x3f).toInt64.toUInt64).toInt64)) + (((v4 * v5).toUInt64 >>> ((32 : Int32) &&& 0x3f).toInt64.toUInt64).toInt64)))]))
  refine Go.step (fun t k => XS.lushr X0.here hx rfl (hb hby d2_93) rfl k) ?_
  show Go p e below _ (s₁.setTop (mkF m 94 #[.val (.long q1), .second, .val (.long q2), .second, .val (.long v3), .second, .val (.long v4), .second, .val (.long v5), .second, .val (.long v6), .second, .val (.long (v4 * v6)), .second, .val (.long (v3 * v6)), .second, .val (.long (v4 * v5)), .second, .val (.long (v3 * v5)), .second, .val (.long v7), .second] [(.long ((v7.toUInt64 >>> ((32 : Int32) &&& 0x3f).toInt64.toUInt64).toInt64)), (.long (((v3 * v5) + (((v3 * v6).toUInt64 >>> ((32 : Int32) &&& 0x3f).toInt64.toUInt64).toInt64)) + (((v4 * v5).toUInt64 >>> ((32 : Int32) &&& 0x3f).toInt64.toUInt64).toInt64)))]))
  refine Go.step (fun t k => XS.ladd X0.here hx rfl (hb hby d2_94) rfl k) ?_
  show Go p e below _ (s₁.setTop (mkF m 95 #[.val (.long q1), .second, .val (.long q2), .second, .val (.long v3), .second, .val (.long v4), .second, .val (.long v5), .second, .val (.long v6), .second, .val (.long (v4 * v6)), .second, .val (.long (v3 * v6)), .second, .val (.long (v4 * v5)), .second, .val (.long (v3 * v5)), .second, .val (.long v7), .second] [(.long ((((v3 * v5) + (((v3 * v6).toUInt64 >>> ((32 : Int32) &&& 0x3f).toInt64.toUInt64).toInt64)) + (((v4 * v5).toUInt64 >>> ((32 : Int32) &&& 0x3f).toInt64.toUInt64).toInt64)) + ((v7.toUInt64 >>> ((32 : Int32) &&& 0x3f).toInt64.toUInt64).toInt64)))]))
  subst hv7
  subst hv6
  subst hv5
  subst hv4
  subst hv3
  exact retGJ X0 hx Bd.notSynchronized Bd.returns (hb hby d2_95) ⟨by first | rfl | (simp only [f2]; done) | (simp [f2]; done), N0, e0⟩ (by decide) (by decide)
theorem d4_0 : decode jdk_29_method_45_code 0 = .ok (.lload_n 0, 1) := by decide +kernel
theorem d4_1 : decode jdk_29_method_45_code 1 = .ok (.bipush 32, 2) := by decide +kernel
theorem d4_3 : decode jdk_29_method_45_code 3 = .ok (.lshr, 1) := by decide +kernel
theorem d4_4 : decode jdk_29_method_45_code 4 = .ok (.lstore 4, 2) := by decide +kernel
theorem d4_6 : decode jdk_29_method_45_code 6 = .ok (.lload_n 0, 1) := by decide +kernel
theorem d4_7 : decode jdk_29_method_45_code 7 = .ok (.ldc2_w 138, 3) := by decide +kernel
theorem d4_10 : decode jdk_29_method_45_code 10 = .ok (.land, 1) := by decide +kernel
theorem d4_11 : decode jdk_29_method_45_code 11 = .ok (.lstore 6, 2) := by decide +kernel
theorem d4_13 : decode jdk_29_method_45_code 13 = .ok (.lload_n 2, 1) := by decide +kernel
theorem d4_14 : decode jdk_29_method_45_code 14 = .ok (.bipush 32, 2) := by decide +kernel
theorem d4_16 : decode jdk_29_method_45_code 16 = .ok (.lshr, 1) := by decide +kernel
theorem d4_17 : decode jdk_29_method_45_code 17 = .ok (.lstore 8, 2) := by decide +kernel
theorem d4_19 : decode jdk_29_method_45_code 19 = .ok (.lload_n 2, 1) := by decide +kernel
theorem d4_20 : decode jdk_29_method_45_code 20 = .ok (.ldc2_w 138, 3) := by decide +kernel
theorem d4_23 : decode jdk_29_method_45_code 23 = .ok (.land, 1) := by decide +kernel
theorem d4_24 : decode jdk_29_method_45_code 24 = .ok (.lstore 10, 2) := by decide +kernel
theorem d4_26 : decode jdk_29_method_45_code 26 = .ok (.lload 6, 2) := by decide +kernel
theorem d4_28 : decode jdk_29_method_45_code 28 = .ok (.lload 10, 2) := by decide +kernel
theorem d4_30 : decode jdk_29_method_45_code 30 = .ok (.lmul, 1) := by decide +kernel
theorem d4_31 : decode jdk_29_method_45_code 31 = .ok (.lstore 12, 2) := by decide +kernel
theorem d4_33 : decode jdk_29_method_45_code 33 = .ok (.lload 4, 2) := by decide +kernel
theorem d4_35 : decode jdk_29_method_45_code 35 = .ok (.lload 10, 2) := by decide +kernel
theorem d4_37 : decode jdk_29_method_45_code 37 = .ok (.lmul, 1) := by decide +kernel
theorem d4_38 : decode jdk_29_method_45_code 38 = .ok (.lload 12, 2) := by decide +kernel
theorem d4_40 : decode jdk_29_method_45_code 40 = .ok (.bipush 32, 2) := by decide +kernel
theorem d4_42 : decode jdk_29_method_45_code 42 = .ok (.lushr, 1) := by decide +kernel
theorem d4_43 : decode jdk_29_method_45_code 43 = .ok (.ladd, 1) := by decide +kernel
theorem d4_44 : decode jdk_29_method_45_code 44 = .ok (.lstore 14, 2) := by decide +kernel
theorem d4_46 : decode jdk_29_method_45_code 46 = .ok (.lload 14, 2) := by decide +kernel
theorem d4_48 : decode jdk_29_method_45_code 48 = .ok (.ldc2_w 138, 3) := by decide +kernel
theorem d4_51 : decode jdk_29_method_45_code 51 = .ok (.land, 1) := by decide +kernel
theorem d4_52 : decode jdk_29_method_45_code 52 = .ok (.lstore 16, 2) := by decide +kernel
theorem d4_54 : decode jdk_29_method_45_code 54 = .ok (.lload 14, 2) := by decide +kernel
theorem d4_56 : decode jdk_29_method_45_code 56 = .ok (.bipush 32, 2) := by decide +kernel
theorem d4_58 : decode jdk_29_method_45_code 58 = .ok (.lshr, 1) := by decide +kernel
theorem d4_59 : decode jdk_29_method_45_code 59 = .ok (.lstore 18, 2) := by decide +kernel
theorem d4_61 : decode jdk_29_method_45_code 61 = .ok (.lload 16, 2) := by decide +kernel
theorem d4_63 : decode jdk_29_method_45_code 63 = .ok (.lload 6, 2) := by decide +kernel
theorem d4_65 : decode jdk_29_method_45_code 65 = .ok (.lload 8, 2) := by decide +kernel
theorem d4_67 : decode jdk_29_method_45_code 67 = .ok (.lmul, 1) := by decide +kernel
theorem d4_68 : decode jdk_29_method_45_code 68 = .ok (.ladd, 1) := by decide +kernel
theorem d4_69 : decode jdk_29_method_45_code 69 = .ok (.lstore 16, 2) := by decide +kernel
theorem d4_71 : decode jdk_29_method_45_code 71 = .ok (.lload 4, 2) := by decide +kernel
theorem d4_73 : decode jdk_29_method_45_code 73 = .ok (.lload 8, 2) := by decide +kernel
theorem d4_75 : decode jdk_29_method_45_code 75 = .ok (.lmul, 1) := by decide +kernel
theorem d4_76 : decode jdk_29_method_45_code 76 = .ok (.lload 18, 2) := by decide +kernel
theorem d4_78 : decode jdk_29_method_45_code 78 = .ok (.ladd, 1) := by decide +kernel
theorem d4_79 : decode jdk_29_method_45_code 79 = .ok (.lload 16, 2) := by decide +kernel
theorem d4_81 : decode jdk_29_method_45_code 81 = .ok (.bipush 32, 2) := by decide +kernel
theorem d4_83 : decode jdk_29_method_45_code 83 = .ok (.lshr, 1) := by decide +kernel
theorem d4_84 : decode jdk_29_method_45_code 84 = .ok (.ladd, 1) := by decide +kernel
theorem d4_85 : decode jdk_29_method_45_code 85 = .ok (.lreturn, 1) := by decide +kernel
theorem ef_4 (m : MethodId) (q1 : Int64) (q2 : Int64) : entryFrame m #[(.long q1), (.long q2)] 20 = mkF m 0 #[.val (.long q1), .second, .val (.long q2), .second, .unset, .unset, .unset, .unset, .unset, .unset, .unset, .unset, .unset, .unset, .unset, .unset, .unset, .unset, .unset, .unset] [] := by first | (simp [entryFrame, mkF, argsToLocals, Value.category]; done) | rfl
def f4 (q1 : Int64) (q2 : Int64) : Int64 := ((((q1 >>> ((32 : Int32) &&& 0x3f).toInt64) * (q2 >>> ((32 : Int32) &&& 0x3f).toInt64)) + ((((q1 >>> ((32 : Int32) &&& 0x3f).toInt64) * (q2 &&& (4294967295 : Int64))) + ((((q1 &&& (4294967295 : Int64)) * (q2 &&& (4294967295 : Int64))).toUInt64 >>> ((32 : Int32) &&& 0x3f).toInt64.toUInt64).toInt64)) >>> ((32 : Int32) &&& 0x3f).toInt64)) + ((((((q1 >>> ((32 : Int32) &&& 0x3f).toInt64) * (q2 &&& (4294967295 : Int64))) + ((((q1 &&& (4294967295 : Int64)) * (q2 &&& (4294967295 : Int64))).toUInt64 >>> ((32 : Int32) &&& 0x3f).toInt64.toUInt64).toInt64)) &&& (4294967295 : Int64)) + ((q1 &&& (4294967295 : Int64)) * (q2 >>> ((32 : Int32) &&& 0x3f).toInt64))) >>> ((32 : Int32) &&& 0x3f).toInt64))
set_option maxRecDepth 65536 in
set_option maxHeartbeats 40000000 in
theorem rm4 (l : Launch) (Z : State) (a0 : Array Value) (hw : ∀ d ∈ tables_1, d.before a0 Z = true) (ws : List Jvm.Cond) (q1 : Int64) (q2 : Int64) (h0 : Heap) (n0 : Nat) (Z0 : n0 ≤ h0.size) :
    MetFree l (⟨"java/lang/Math", "multiplyHigh", "(JJ)J"⟩ : MethodName) (head1 (Jvm.Cond.code (⟨"java/lang/Math", "multiplyHigh", "(JJ)J"⟩ : MethodName) jdk_29_method_45_code 20 (some .long) :: ws) ({ frames := 0, cells := 0, slots := 0, locals := 0 } : Room)) (fun a U => a = #[(.long q1), (.long q2)] ∧ Z.Warmed39 U.vm ∧ U.heap = h0) (fun _ _ _ _ _ => True) (fun _ U o U' => ∃ v L, o = .returned v ∧ QP (.long (f4 q1 q2)) h0 n0 v U'.heap L ∧ FrameEnd U o U' L ({ frames := 0, cells := 0, slots := 0, locals := 0 } : Room).cells ({ frames := 0, cells := 0, slots := 0, locals := 0 } : Room).slots) := by
  refine MetFree.of_bodySF (Jvm.Free.JP.mathPlain rfl (by decide +kernel)) hisR ?_
  intro p e s m args below meth c s₁ Bd hml0 hP hK
  obtain ⟨rfl, hZ, hh⟩ := hP
  have hx := Bd.exec
  have hby := Bd.bytes
  have hml : c.maxLocals = 20 := hml0
  have hown : s.vm.findClass "java/lang/Math" = some m.cls := findClass_of_methodNamed Bd.named
  have hnm := (name_of_methodNamed Bd.named Bd.method).1
  have X0 : Stand p l e ({ frames := 0, cells := 0, slots := 0, locals := 0 } : Room) s m #[(.long q1), (.long q2)] below meth c s₁ [] 0 0 := Stand.of_body Bd
  have e0 : s₁.heap = h0 := by rw [← hh, Bd.state]; rfl
  have N0 := Fr.nil n0
  refine Go.done (Go.step (fun t k => castTop (ef_4 m q1 q2) k) ?_)
  show Go p e below _ (s₁.setTop (mkF m 0 #[.val (.long q1), .second, .val (.long q2), .second, .unset, .unset, .unset, .unset, .unset, .unset, .unset, .unset, .unset, .unset, .unset, .unset, .unset, .unset, .unset, .unset] []))
  refine Go.step (fun t k => XS.lloadN X0.here hx rfl (hb hby d4_0) rfl k) ?_
  show Go p e below _ (s₁.setTop (mkF m 1 #[.val (.long q1), .second, .val (.long q2), .second, .unset, .unset, .unset, .unset, .unset, .unset, .unset, .unset, .unset, .unset, .unset, .unset, .unset, .unset, .unset, .unset] [(.long q1)]))
  refine Go.step (fun t k => XS.bipush X0.here hx rfl (hb hby d4_1)  k) ?_
  show Go p e below _ (s₁.setTop (mkF m 3 #[.val (.long q1), .second, .val (.long q2), .second, .unset, .unset, .unset, .unset, .unset, .unset, .unset, .unset, .unset, .unset, .unset, .unset, .unset, .unset, .unset, .unset] [(.int (32 : Int32)), (.long q1)]))
  refine Go.step (fun t k => XS.lshr X0.here hx rfl (hb hby d4_3) rfl k) ?_
  show Go p e below _ (s₁.setTop (mkF m 4 #[.val (.long q1), .second, .val (.long q2), .second, .unset, .unset, .unset, .unset, .unset, .unset, .unset, .unset, .unset, .unset, .unset, .unset, .unset, .unset, .unset, .unset] [(.long (q1 >>> ((32 : Int32) &&& 0x3f).toInt64))]))
  obtain ⟨v3, hv3⟩ : ∃ z : Int64, z = (q1 >>> ((32 : Int32) &&& 0x3f).toInt64) := ⟨_, rfl⟩
  rw [← hv3]
  show Go p e below _ (s₁.setTop (mkF m 4 #[.val (.long q1), .second, .val (.long q2), .second, .unset, .unset, .unset, .unset, .unset, .unset, .unset, .unset, .unset, .unset, .unset, .unset, .unset, .unset, .unset, .unset] [(.long v3)]))
  refine Go.step (fun t k => XS.lstore X0.here hx rfl (hb hby d4_4) rfl (l' := #[.val (.long q1), .second, .val (.long q2), .second, .val (.long v3), .second, .unset, .unset, .unset, .unset, .unset, .unset, .unset, .unset, .unset, .unset, .unset, .unset, .unset, .unset]) rfl k) ?_
  show Go p e below _ (s₁.setTop (mkF m 6 #[.val (.long q1), .second, .val (.long q2), .second, .val (.long v3), .second, .unset, .unset, .unset, .unset, .unset, .unset, .unset, .unset, .unset, .unset, .unset, .unset, .unset, .unset] []))
  refine Go.step (fun t k => XS.lloadN X0.here hx rfl (hb hby d4_6) rfl k) ?_
  show Go p e below _ (s₁.setTop (mkF m 7 #[.val (.long q1), .second, .val (.long q2), .second, .val (.long v3), .second, .unset, .unset, .unset, .unset, .unset, .unset, .unset, .unset, .unset, .unset, .unset, .unset, .unset, .unset] [(.long q1)]))
  refine Go.step (X0.ldc2Long hx hown (mvT hZ (hw _ (List.mem_of_getElem? (i := 18) rfl))) (g := (mkF m 7 #[.val (.long q1), .second, .val (.long q2), .second, .val (.long v3), .second, .unset, .unset, .unset, .unset, .unset, .unset, .unset, .unset, .unset, .unset, .unset, .unset, .unset, .unset] [(.long q1)])) rfl (hb hby d4_7)) ?_
  show Go p e below _ (s₁.setTop (mkF m 10 #[.val (.long q1), .second, .val (.long q2), .second, .val (.long v3), .second, .unset, .unset, .unset, .unset, .unset, .unset, .unset, .unset, .unset, .unset, .unset, .unset, .unset, .unset] [(.long (4294967295 : Int64)), (.long q1)]))
  refine Go.step (fun t k => XS.land X0.here hx rfl (hb hby d4_10) rfl k) ?_
  show Go p e below _ (s₁.setTop (mkF m 11 #[.val (.long q1), .second, .val (.long q2), .second, .val (.long v3), .second, .unset, .unset, .unset, .unset, .unset, .unset, .unset, .unset, .unset, .unset, .unset, .unset, .unset, .unset] [(.long (q1 &&& (4294967295 : Int64)))]))
  obtain ⟨v4, hv4⟩ : ∃ z : Int64, z = (q1 &&& (4294967295 : Int64)) := ⟨_, rfl⟩
  rw [← hv4]
  show Go p e below _ (s₁.setTop (mkF m 11 #[.val (.long q1), .second, .val (.long q2), .second, .val (.long v3), .second, .unset, .unset, .unset, .unset, .unset, .unset, .unset, .unset, .unset, .unset, .unset, .unset, .unset, .unset] [(.long v4)]))
  refine Go.step (fun t k => XS.lstore X0.here hx rfl (hb hby d4_11) rfl (l' := #[.val (.long q1), .second, .val (.long q2), .second, .val (.long v3), .second, .val (.long v4), .second, .unset, .unset, .unset, .unset, .unset, .unset, .unset, .unset, .unset, .unset, .unset, .unset]) rfl k) ?_
  show Go p e below _ (s₁.setTop (mkF m 13 #[.val (.long q1), .second, .val (.long q2), .second, .val (.long v3), .second, .val (.long v4), .second, .unset, .unset, .unset, .unset, .unset, .unset, .unset, .unset, .unset, .unset, .unset, .unset] []))
  refine Go.step (fun t k => XS.lloadN X0.here hx rfl (hb hby d4_13) rfl k) ?_
  show Go p e below _ (s₁.setTop (mkF m 14 #[.val (.long q1), .second, .val (.long q2), .second, .val (.long v3), .second, .val (.long v4), .second, .unset, .unset, .unset, .unset, .unset, .unset, .unset, .unset, .unset, .unset, .unset, .unset] [(.long q2)]))
  refine Go.step (fun t k => XS.bipush X0.here hx rfl (hb hby d4_14)  k) ?_
  show Go p e below _ (s₁.setTop (mkF m 16 #[.val (.long q1), .second, .val (.long q2), .second, .val (.long v3), .second, .val (.long v4), .second, .unset, .unset, .unset, .unset, .unset, .unset, .unset, .unset, .unset, .unset, .unset, .unset] [(.int (32 : Int32)), (.long q2)]))
  refine Go.step (fun t k => XS.lshr X0.here hx rfl (hb hby d4_16) rfl k) ?_
  show Go p e below _ (s₁.setTop (mkF m 17 #[.val (.long q1), .second, .val (.long q2), .second, .val (.long v3), .second, .val (.long v4), .second, .unset, .unset, .unset, .unset, .unset, .unset, .unset, .unset, .unset, .unset, .unset, .unset] [(.long (q2 >>> ((32 : Int32) &&& 0x3f).toInt64))]))
  obtain ⟨v5, hv5⟩ : ∃ z : Int64, z = (q2 >>> ((32 : Int32) &&& 0x3f).toInt64) := ⟨_, rfl⟩
  rw [← hv5]
  show Go p e below _ (s₁.setTop (mkF m 17 #[.val (.long q1), .second, .val (.long q2), .second, .val (.long v3), .second, .val (.long v4), .second, .unset, .unset, .unset, .unset, .unset, .unset, .unset, .unset, .unset, .unset, .unset, .unset] [(.long v5)]))
  refine Go.step (fun t k => XS.lstore X0.here hx rfl (hb hby d4_17) rfl (l' := #[.val (.long q1), .second, .val (.long q2), .second, .val (.long v3), .second, .val (.long v4), .second, .val (.long v5), .second, .unset, .unset, .unset, .unset, .unset, .unset, .unset, .unset, .unset, .unset]) rfl k) ?_
  show Go p e below _ (s₁.setTop (mkF m 19 #[.val (.long q1), .second, .val (.long q2), .second, .val (.long v3), .second, .val (.long v4), .second, .val (.long v5), .second, .unset, .unset, .unset, .unset, .unset, .unset, .unset, .unset, .unset, .unset] []))
  refine Go.step (fun t k => XS.lloadN X0.here hx rfl (hb hby d4_19) rfl k) ?_
  show Go p e below _ (s₁.setTop (mkF m 20 #[.val (.long q1), .second, .val (.long q2), .second, .val (.long v3), .second, .val (.long v4), .second, .val (.long v5), .second, .unset, .unset, .unset, .unset, .unset, .unset, .unset, .unset, .unset, .unset] [(.long q2)]))
  refine Go.step (X0.ldc2Long hx hown (mvT hZ (hw _ (List.mem_of_getElem? (i := 18) rfl))) (g := (mkF m 20 #[.val (.long q1), .second, .val (.long q2), .second, .val (.long v3), .second, .val (.long v4), .second, .val (.long v5), .second, .unset, .unset, .unset, .unset, .unset, .unset, .unset, .unset, .unset, .unset] [(.long q2)])) rfl (hb hby d4_20)) ?_
  show Go p e below _ (s₁.setTop (mkF m 23 #[.val (.long q1), .second, .val (.long q2), .second, .val (.long v3), .second, .val (.long v4), .second, .val (.long v5), .second, .unset, .unset, .unset, .unset, .unset, .unset, .unset, .unset, .unset, .unset] [(.long (4294967295 : Int64)), (.long q2)]))
  refine Go.step (fun t k => XS.land X0.here hx rfl (hb hby d4_23) rfl k) ?_
  show Go p e below _ (s₁.setTop (mkF m 24 #[.val (.long q1), .second, .val (.long q2), .second, .val (.long v3), .second, .val (.long v4), .second, .val (.long v5), .second, .unset, .unset, .unset, .unset, .unset, .unset, .unset, .unset, .unset, .unset] [(.long (q2 &&& (4294967295 : Int64)))]))
  obtain ⟨v6, hv6⟩ : ∃ z : Int64, z = (q2 &&& (4294967295 : Int64)) := ⟨_, rfl⟩
  rw [← hv6]
  show Go p e below _ (s₁.setTop (mkF m 24 #[.val (.long q1), .second, .val (.long q2), .second, .val (.long v3), .second, .val (.long v4), .second, .val (.long v5), .second, .unset, .unset, .unset, .unset, .unset, .unset, .unset, .unset, .unset, .unset] [(.long v6)]))
  refine Go.step (fun t k => XS.lstore X0.here hx rfl (hb hby d4_24) rfl (l' := #[.val (.long q1), .second, .val (.long q2), .second, .val (.long v3), .second, .val (.long v4), .second, .val (.long v5), .second, .val (.long v6), .second, .unset, .unset, .unset, .unset, .unset, .unset, .unset, .unset]) rfl k) ?_
  show Go p e below _ (s₁.setTop (mkF m 26 #[.val (.long q1), .second, .val (.long q2), .second, .val (.long v3), .second, .val (.long v4), .second, .val (.long v5), .second, .val (.long v6), .second, .unset, .unset, .unset, .unset, .unset, .unset, .unset, .unset] []))
  refine Go.step (fun t k => XS.lload X0.here hx rfl (hb hby d4_26) rfl k) ?_
  show Go p e below _ (s₁.setTop (mkF m 28 #[.val (.long q1), .second, .val (.long q2), .second, .val (.long v3), .second, .val (.long v4), .second, .val (.long v5), .second, .val (.long v6), .second, .unset, .unset, .unset, .unset, .unset, .unset, .unset, .unset] [(.long v4)]))
  refine Go.step (fun t k => XS.lload X0.here hx rfl (hb hby d4_28) rfl k) ?_
  show Go p e below _ (s₁.setTop (mkF m 30 #[.val (.long q1), .second, .val (.long q2), .second, .val (.long v3), .second, .val (.long v4), .second, .val (.long v5), .second, .val (.long v6), .second, .unset, .unset, .unset, .unset, .unset, .unset, .unset, .unset] [(.long v6), (.long v4)]))
  refine Go.step (fun t k => XS.lmul X0.here hx rfl (hb hby d4_30) rfl k) ?_
  show Go p e below _ (s₁.setTop (mkF m 31 #[.val (.long q1), .second, .val (.long q2), .second, .val (.long v3), .second, .val (.long v4), .second, .val (.long v5), .second, .val (.long v6), .second, .unset, .unset, .unset, .unset, .unset, .unset, .unset, .unset] [(.long (v4 * v6))]))
  refine Go.step (fun t k => XS.lstore X0.here hx rfl (hb hby d4_31) rfl (l' := #[.val (.long q1), .second, .val (.long q2), .second, .val (.long v3), .second, .val (.long v4), .second, .val (.long v5), .second, .val (.long v6), .second, .val (.long (v4 * v6)), .second, .unset, .unset, .unset, .unset, .unset, .unset]) rfl k) ?_
  show Go p e below _ (s₁.setTop (mkF m 33 #[.val (.long q1), .second, .val (.long q2), .second, .val (.long v3), .second, .val (.long v4), .second, .val (.long v5), .second, .val (.long v6), .second, .val (.long (v4 * v6)), .second, .unset, .unset, .unset, .unset, .unset, .unset] []))
  refine Go.step (fun t k => XS.lload X0.here hx rfl (hb hby d4_33) rfl k) ?_
  show Go p e below _ (s₁.setTop (mkF m 35 #[.val (.long q1), .second, .val (.long q2), .second, .val (.long v3), .second, .val (.long v4), .second, .val (.long v5), .second, .val (.long v6), .second, .val (.long (v4 * v6)), .second, .unset, .unset, .unset, .unset, .unset, .unset] [(.long v3)]))
  refine Go.step (fun t k => XS.lload X0.here hx rfl (hb hby d4_35) rfl k) ?_
  show Go p e below _ (s₁.setTop (mkF m 37 #[.val (.long q1), .second, .val (.long q2), .second, .val (.long v3), .second, .val (.long v4), .second, .val (.long v5), .second, .val (.long v6), .second, .val (.long (v4 * v6)), .second, .unset, .unset, .unset, .unset, .unset, .unset] [(.long v6), (.long v3)]))
  refine Go.step (fun t k => XS.lmul X0.here hx rfl (hb hby d4_37) rfl k) ?_
  show Go p e below _ (s₁.setTop (mkF m 38 #[.val (.long q1), .second, .val (.long q2), .second, .val (.long v3), .second, .val (.long v4), .second, .val (.long v5), .second, .val (.long v6), .second, .val (.long (v4 * v6)), .second, .unset, .unset, .unset, .unset, .unset, .unset] [(.long (v3 * v6))]))
  refine Go.step (fun t k => XS.lload X0.here hx rfl (hb hby d4_38) rfl k) ?_
  show Go p e below _ (s₁.setTop (mkF m 40 #[.val (.long q1), .second, .val (.long q2), .second, .val (.long v3), .second, .val (.long v4), .second, .val (.long v5), .second, .val (.long v6), .second, .val (.long (v4 * v6)), .second, .unset, .unset, .unset, .unset, .unset, .unset] [(.long (v4 * v6)), (.long (v3 * v6))]))
  refine Go.step (fun t k => XS.bipush X0.here hx rfl (hb hby d4_40)  k) ?_
  show Go p e below _ (s₁.setTop (mkF m 42 #[.val (.long q1), .second, .val (.long q2), .second, .val (.long v3), .second, .val (.long v4), .second, .val (.long v5), .second, .val (.long v6), .second, .val (.long (v4 * v6)), .second, .unset, .unset, .unset, .unset, .unset, .unset] [(.int (32 : Int32)), (.long (v4 * v6)), (.long (v3 * v6))]))
  refine Go.step (fun t k => XS.lushr X0.here hx rfl (hb hby d4_42) rfl k) ?_
  show Go p e below _ (s₁.setTop (mkF m 43 #[.val (.long q1), .second, .val (.long q2), .second, .val (.long v3), .second, .val (.long v4), .second, .val (.long v5), .second, .val (.long v6), .second, .val (.long (v4 * v6)), .second, .unset, .unset, .unset, .unset, .unset, .unset] [(.long (((v4 * v6).toUInt64 >>> ((32 : Int32) &&& 0x3f).toInt64.toUInt64).toInt64)), (.long (v3 * v6))]))
  refine Go.step (fun t k => XS.ladd X0.here hx rfl (hb hby d4_43) rfl k) ?_
  show Go p e below _ (s₁.setTop (mkF m 44 #[.val (.long q1), .second, .val (.long q2), .second, .val (.long v3), .second, .val (.long v4), .second, .val (.long v5), .second, .val (.long v6), .second, .val (.long (v4 * v6)), .second, .unset, .unset, .unset, .unset, .unset, .unset] [(.long ((v3 * v6) + (((v4 * v6).toUInt64 >>> ((32 : Int32) &&& 0x3f).toInt64.toUInt64).toInt64)))]))
  obtain ⟨v7, hv7⟩ : ∃ z : Int64, z = ((v3 * v6) + (((v4 * v6).toUInt64 >>> ((32 : Int32) &&& 0x3f).toInt64.toUInt64).toInt64)) := ⟨_, rfl⟩
  rw [← hv7]
  show Go p e below _ (s₁.setTop (mkF m 44 #[.val (.long q1), .second, .val (.long q2), .second, .val (.long v3), .second, .val (.long v4), .second, .val (.long v5), .second, .val (.long v6), .second, .val (.long (v4 * v6)), .second, .unset, .unset, .unset, .unset, .unset, .unset] [(.long v7)]))
  refine Go.step (fun t k => XS.lstore X0.here hx rfl (hb hby d4_44) rfl (l' := #[.val (.long q1), .second, .val (.long q2), .second, .val (.long v3), .second, .val (.long v4), .second, .val (.long v5), .second, .val (.long v6), .second, .val (.long (v4 * v6)), .second, .val (.long v7), .second, .unset, .unset, .unset, .unset]) rfl k) ?_
  show Go p e below _ (s₁.setTop (mkF m 46 #[.val (.long q1), .second, .val (.long q2), .second, .val (.long v3), .second, .val (.long v4), .second, .val (.long v5), .second, .val (.long v6), .second, .val (.long (v4 * v6)), .second, .val (.long v7), .second, .unset, .unset, .unset, .unset] []))
  refine Go.step (fun t k => XS.lload X0.here hx rfl (hb hby d4_46) rfl k) ?_
  show Go p e below _ (s₁.setTop (mkF m 48 #[.val (.long q1), .second, .val (.long q2), .second, .val (.long v3), .second, .val (.long v4), .second, .val (.long v5), .second, .val (.long v6), .second, .val (.long (v4 * v6)), .second, .val (.long v7), .second, .unset, .unset, .unset, .unset] [(.long v7)]))
  refine Go.step (X0.ldc2Long hx hown (mvT hZ (hw _ (List.mem_of_getElem? (i := 18) rfl))) (g := (mkF m 48 #[.val (.long q1), .second, .val (.long q2), .second, .val (.long v3), .second, .val (.long v4), .second, .val (.long v5), .second, .val (.long v6), .second, .val (.long (v4 * v6)), .second, .val (.long v7), .second, .unset, .unset, .unset, .unset] [(.long v7)])) rfl (hb hby d4_48)) ?_
  show Go p e below _ (s₁.setTop (mkF m 51 #[.val (.long q1), .second, .val (.long q2), .second, .val (.long v3), .second, .val (.long v4), .second, .val (.long v5), .second, .val (.long v6), .second, .val (.long (v4 * v6)), .second, .val (.long v7), .second, .unset, .unset, .unset, .unset] [(.long (4294967295 : Int64)), (.long v7)]))
  refine Go.step (fun t k => XS.land X0.here hx rfl (hb hby d4_51) rfl k) ?_
  show Go p e below _ (s₁.setTop (mkF m 52 #[.val (.long q1), .second, .val (.long q2), .second, .val (.long v3), .second, .val (.long v4), .second, .val (.long v5), .second, .val (.long v6), .second, .val (.long (v4 * v6)), .second, .val (.long v7), .second, .unset, .unset, .unset, .unset] [(.long (v7 &&& (4294967295 : Int64)))]))
  obtain ⟨v8, hv8⟩ : ∃ z : Int64, z = (v7 &&& (4294967295 : Int64)) := ⟨_, rfl⟩
  rw [← hv8]
  show Go p e below _ (s₁.setTop (mkF m 52 #[.val (.long q1), .second, .val (.long q2), .second, .val (.long v3), .second, .val (.long v4), .second, .val (.long v5), .second, .val (.long v6), .second, .val (.long (v4 * v6)), .second, .val (.long v7), .second, .unset, .unset, .unset, .unset] [(.long v8)]))
  refine Go.step (fun t k => XS.lstore X0.here hx rfl (hb hby d4_52) rfl (l' := #[.val (.long q1), .second, .val (.long q2), .second, .val (.long v3), .second, .val (.long v4), .second, .val (.long v5), .second, .val (.long v6), .second, .val (.long (v4 * v6)), .second, .val (.long v7), .second, .val (.long v8), .second, .unset, .unset]) rfl k) ?_
  show Go p e below _ (s₁.setTop (mkF m 54 #[.val (.long q1), .second, .val (.long q2), .second, .val (.long v3), .second, .val (.long v4), .second, .val (.long v5), .second, .val (.long v6), .second, .val (.long (v4 * v6)), .second, .val (.long v7), .second, .val (.long v8), .second, .unset, .unset] []))
  refine Go.step (fun t k => XS.lload X0.here hx rfl (hb hby d4_54) rfl k) ?_
  show Go p e below _ (s₁.setTop (mkF m 56 #[.val (.long q1), .second, .val (.long q2), .second, .val (.long v3), .second, .val (.long v4), .second, .val (.long v5), .second, .val (.long v6), .second, .val (.long (v4 * v6)), .second, .val (.long v7), .second, .val (.long v8), .second, .unset, .unset] [(.long v7)]))
  refine Go.step (fun t k => XS.bipush X0.here hx rfl (hb hby d4_56)  k) ?_
  show Go p e below _ (s₁.setTop (mkF m 58 #[.val (.long q1), .second, .val (.long q2), .second, .val (.long v3), .second, .val (.long v4), .second, .val (.long v5), .second, .val (.long v6), .second, .val (.long (v4 * v6)), .second, .val (.long v7), .second, .val (.long v8), .second, .unset, .unset] [(.int (32 : Int32)), (.long v7)]))
  refine Go.step (fun t k => XS.lshr X0.here hx rfl (hb hby d4_58) rfl k) ?_
  show Go p e below _ (s₁.setTop (mkF m 59 #[.val (.long q1), .second, .val (.long q2), .second, .val (.long v3), .second, .val (.long v4), .second, .val (.long v5), .second, .val (.long v6), .second, .val (.long (v4 * v6)), .second, .val (.long v7), .second, .val (.long v8), .second, .unset, .unset] [(.long (v7 >>> ((32 : Int32) &&& 0x3f).toInt64))]))
  obtain ⟨v9, hv9⟩ : ∃ z : Int64, z = (v7 >>> ((32 : Int32) &&& 0x3f).toInt64) := ⟨_, rfl⟩
  rw [← hv9]
  show Go p e below _ (s₁.setTop (mkF m 59 #[.val (.long q1), .second, .val (.long q2), .second, .val (.long v3), .second, .val (.long v4), .second, .val (.long v5), .second, .val (.long v6), .second, .val (.long (v4 * v6)), .second, .val (.long v7), .second, .val (.long v8), .second, .unset, .unset] [(.long v9)]))
  refine Go.step (fun t k => XS.lstore X0.here hx rfl (hb hby d4_59) rfl (l' := #[.val (.long q1), .second, .val (.long q2), .second, .val (.long v3), .second, .val (.long v4), .second, .val (.long v5), .second, .val (.long v6), .second, .val (.long (v4 * v6)), .second, .val (.long v7), .second, .val (.long v8), .second, .val (.long v9), .second]) rfl k) ?_
  show Go p e below _ (s₁.setTop (mkF m 61 #[.val (.long q1), .second, .val (.long q2), .second, .val (.long v3), .second, .val (.long v4), .second, .val (.long v5), .second, .val (.long v6), .second, .val (.long (v4 * v6)), .second, .val (.long v7), .second, .val (.long v8), .second, .val (.long v9), .second] []))
  refine Go.step (fun t k => XS.lload X0.here hx rfl (hb hby d4_61) rfl k) ?_
  show Go p e below _ (s₁.setTop (mkF m 63 #[.val (.long q1), .second, .val (.long q2), .second, .val (.long v3), .second, .val (.long v4), .second, .val (.long v5), .second, .val (.long v6), .second, .val (.long (v4 * v6)), .second, .val (.long v7), .second, .val (.long v8), .second, .val (.long v9), .second] [(.long v8)]))
  refine Go.step (fun t k => XS.lload X0.here hx rfl (hb hby d4_63) rfl k) ?_
  show Go p e below _ (s₁.setTop (mkF m 65 #[.val (.long q1), .second, .val (.long q2), .second, .val (.long v3), .second, .val (.long v4), .second, .val (.long v5), .second, .val (.long v6), .second, .val (.long (v4 * v6)), .second, .val (.long v7), .second, .val (.long v8), .second, .val (.long v9), .second] [(.long v4), (.long v8)]))
  refine Go.step (fun t k => XS.lload X0.here hx rfl (hb hby d4_65) rfl k) ?_
  show Go p e below _ (s₁.setTop (mkF m 67 #[.val (.long q1), .second, .val (.long q2), .second, .val (.long v3), .second, .val (.long v4), .second, .val (.long v5), .second, .val (.long v6), .second, .val (.long (v4 * v6)), .second, .val (.long v7), .second, .val (.long v8), .second, .val (.long v9), .second] [(.long v5), (.long v4), (.long v8)]))
  refine Go.step (fun t k => XS.lmul X0.here hx rfl (hb hby d4_67) rfl k) ?_
  show Go p e below _ (s₁.setTop (mkF m 68 #[.val (.long q1), .second, .val (.long q2), .second, .val (.long v3), .second, .val (.long v4), .second, .val (.long v5), .second, .val (.long v6), .second, .val (.long (v4 * v6)), .second, .val (.long v7), .second, .val (.long v8), .second, .val (.long v9), .second] [(.long (v4 * v5)), (.long v8)]))
  refine Go.step (fun t k => XS.ladd X0.here hx rfl (hb hby d4_68) rfl k) ?_
  show Go p e below _ (s₁.setTop (mkF m 69 #[.val (.long q1), .second, .val (.long q2), .second, .val (.long v3), .second, .val (.long v4), .second, .val (.long v5), .second, .val (.long v6), .second, .val (.long (v4 * v6)), .second, .val (.long v7), .second, .val (.long v8), .second, .val (.long v9), .second] [(.long (v8 + (v4 * v5)))]))
  obtain ⟨v10, hv10⟩ : ∃ z : Int64, z = (v8 + (v4 * v5)) := ⟨_, rfl⟩
  rw [← hv10]
  show Go p e below _ (s₁.setTop (mkF m 69 #[.val (.long q1), .second, .val (.long q2), .second, .val (.long v3), .second, .val (.long v4), .second, .val (.long v5), .second, .val (.long v6), .second, .val (.long (v4 * v6)), .second, .val (.long v7), .second, .val (.long v8), .second, .val (.long v9), .second] [(.long v10)]))
  refine Go.step (fun t k => XS.lstore X0.here hx rfl (hb hby d4_69) rfl (l' := #[.val (.long q1), .second, .val (.long q2), .second, .val (.long v3), .second, .val (.long v4), .second, .val (.long v5), .second, .val (.long v6), .second, .val (.long (v4 * v6)), .second, .val (.long v7), .second, .val (.long v10), .second, .val (.long v9), .second]) rfl k) ?_
  show Go p e below _ (s₁.setTop (mkF m 71 #[.val (.long q1), .second, .val (.long q2), .second, .val (.long v3), .second, .val (.long v4), .second, .val (.long v5), .second, .val (.long v6), .second, .val (.long (v4 * v6)), .second, .val (.long v7), .second, .val (.long v10), .second, .val (.long v9), .second] []))
  refine Go.step (fun t k => XS.lload X0.here hx rfl (hb hby d4_71) rfl k) ?_
  show Go p e below _ (s₁.setTop (mkF m 73 #[.val (.long q1), .second, .val (.long q2), .second, .val (.long v3), .second, .val (.long v4), .second, .val (.long v5), .second, .val (.long v6), .second, .val (.long (v4 * v6)), .second, .val (.long v7), .second, .val (.long v10), .second, .val (.long v9), .second] [(.long v3)]))
  refine Go.step (fun t k => XS.lload X0.here hx rfl (hb hby d4_73) rfl k) ?_
  show Go p e below _ (s₁.setTop (mkF m 75 #[.val (.long q1), .second, .val (.long q2), .second, .val (.long v3), .second, .val (.long v4), .second, .val (.long v5), .second, .val (.long v6), .second, .val (.long (v4 * v6)), .second, .val (.long v7), .second, .val (.long v10), .second, .val (.long v9), .second] [(.long v5), (.long v3)]))
  refine Go.step (fun t k => XS.lmul X0.here hx rfl (hb hby d4_75) rfl k) ?_
  show Go p e below _ (s₁.setTop (mkF m 76 #[.val (.long q1), .second, .val (.long q2), .second, .val (.long v3), .second, .val (.long v4), .second, .val (.long v5), .second, .val (.long v6), .second, .val (.long (v4 * v6)), .second, .val (.long v7), .second, .val (.long v10), .second, .val (.long v9), .second] [(.long (v3 * v5))]))
  refine Go.step (fun t k => XS.lload X0.here hx rfl (hb hby d4_76) rfl k) ?_
  show Go p e below _ (s₁.setTop (mkF m 78 #[.val (.long q1), .second, .val (.long q2), .second, .val (.long v3), .second, .val (.long v4), .second, .val (.long v5), .second, .val (.long v6), .second, .val (.long (v4 * v6)), .second, .val (.long v7), .second, .val (.long v10), .second, .val (.long v9), .second] [(.long v9), (.long (v3 * v5))]))
  refine Go.step (fun t k => XS.ladd X0.here hx rfl (hb hby d4_78) rfl k) ?_
  show Go p e below _ (s₁.setTop (mkF m 79 #[.val (.long q1), .second, .val (.long q2), .second, .val (.long v3), .second, .val (.long v4), .second, .val (.long v5), .second, .val (.long v6), .second, .val (.long (v4 * v6)), .second, .val (.long v7), .second, .val (.long v10), .second, .val (.long v9), .second] [(.long ((v3 * v5) + v9))]))
  refine Go.step (fun t k => XS.lload X0.here hx rfl (hb hby d4_79) rfl k) ?_
  show Go p e below _ (s₁.setTop (mkF m 81 #[.val (.long q1), .second, .val (.long q2), .second, .val (.long v3), .second, .val (.long v4), .second, .val (.long v5), .second, .val (.long v6), .second, .val (.long (v4 * v6)), .second, .val (.long v7), .second, .val (.long v10), .second, .val (.long v9), .second] [(.long v10), (.long ((v3 * v5) + v9))]))
  refine Go.step (fun t k => XS.bipush X0.here hx rfl (hb hby d4_81)  k) ?_
  show Go p e below _ (s₁.setTop (mkF m 83 #[.val (.long q1), .second, .val (.long q2), .second, .val (.long v3), .second, .val (.long v4), .second, .val (.long v5), .second, .val (.long v6), .second, .val (.long (v4 * v6)), .second, .val (.long v7), .second, .val (.long v10), .second, .val (.long v9), .second] [(.int (32 : Int32)), (.long v10), (.long ((v3 * v5) + v9))]))
  refine Go.step (fun t k => XS.lshr X0.here hx rfl (hb hby d4_83) rfl k) ?_
  show Go p e below _ (s₁.setTop (mkF m 84 #[.val (.long q1), .second, .val (.long q2), .second, .val (.long v3), .second, .val (.long v4), .second, .val (.long v5), .second, .val (.long v6), .second, .val (.long (v4 * v6)), .second, .val (.long v7), .second, .val (.long v10), .second, .val (.long v9), .second] [(.long (v10 >>> ((32 : Int32) &&& 0x3f).toInt64)), (.long ((v3 * v5) + v9))]))
  refine Go.step (fun t k => XS.ladd X0.here hx rfl (hb hby d4_84) rfl k) ?_
  show Go p e below _ (s₁.setTop (mkF m 85 #[.val (.long q1), .second, .val (.long q2), .second, .val (.long v3), .second, .val (.long v4), .second, .val (.long v5), .second, .val (.long v6), .second, .val (.long (v4 * v6)), .second, .val (.long v7), .second, .val (.long v10), .second, .val (.long v9), .second] [(.long (((v3 * v5) + v9) + (v10 >>> ((32 : Int32) &&& 0x3f).toInt64)))]))
  subst hv10
  subst hv9
  subst hv8
  subst hv7
  subst hv6
  subst hv5
  subst hv4
  subst hv3
  exact retGJ X0 hx Bd.notSynchronized Bd.returns (hb hby d4_85) ⟨by first | rfl | (simp only [f4]; done) | (simp [f4]; done), N0, e0⟩ (by decide) (by decide)
theorem d3_0 : decode prog_6_method_4_code 0 = .ok (.lload_n 0, 1) := by decide +kernel
theorem d3_1 : decode prog_6_method_4_code 1 = .ok (.iload 4, 2) := by decide +kernel
theorem d3_3 : decode prog_6_method_4_code 3 = .ok (.i2l, 1) := by decide +kernel
theorem d3_4 : decode prog_6_method_4_code 4 = .ok (.lload_n 2, 1) := by decide +kernel
theorem d3_5 : decode prog_6_method_4_code 5 = .ok (.lmul, 1) := by decide +kernel
theorem d3_6 : decode prog_6_method_4_code 6 = .ok (.ladd, 1) := by decide +kernel
theorem d3_7 : decode prog_6_method_4_code 7 = .ok (.lstore 7, 2) := by decide +kernel
theorem d3_9 : decode prog_6_method_4_code 9 = .ok (.lload 7, 2) := by decide +kernel
theorem d3_11 : decode prog_6_method_4_code 11 = .ok (.lload 5, 2) := by decide +kernel
theorem d3_13 : decode prog_6_method_4_code 13 = .ok (.invokestatic 33, 3) := by decide +kernel
theorem pd_0 : parseMethodDescriptor "(JJ)J" = some ⟨[.long, .long], some .long⟩ := by decide +kernel
theorem d3_16 : decode prog_6_method_4_code 16 = .ok (.lload 7, 2) := by decide +kernel
theorem d3_18 : decode prog_6_method_4_code 18 = .ok (.bipush 63, 2) := by decide +kernel
theorem d3_20 : decode prog_6_method_4_code 20 = .ok (.lshr, 1) := by decide +kernel
theorem d3_21 : decode prog_6_method_4_code 21 = .ok (.lload 5, 2) := by decide +kernel
theorem d3_23 : decode prog_6_method_4_code 23 = .ok (.land, 1) := by decide +kernel
theorem d3_24 : decode prog_6_method_4_code 24 = .ok (.ladd, 1) := by decide +kernel
theorem d3_25 : decode prog_6_method_4_code 25 = .ok (.lreturn, 1) := by decide +kernel
theorem ef_3 (m : MethodId) (q1 : Int64) (q2 : Int64) (p3 : Int32) (q4 : Int64) : entryFrame m #[(.long q1), (.long q2), (.int p3), (.long q4)] 9 = mkF m 0 #[.val (.long q1), .second, .val (.long q2), .second, .val (.int p3), .val (.long q4), .second, .unset, .unset] [] := by first | (simp [entryFrame, mkF, argsToLocals, Value.category]; done) | rfl
theorem pn_1 : plainName "com/example/arnero/arnero/HashScheme" = true := by first | (simp [plainName, overriddenIn]; done) | decide +kernel
def f3 (q1 : Int64) (q2 : Int64) (p3 : Int32) (q4 : Int64) : Int64 := ((f4 (q1 + ((p3.toInt64) * q2)) q4) + (((q1 + ((p3.toInt64) * q2)) >>> ((63 : Int32) &&& 0x3f).toInt64) &&& q4))
set_option maxRecDepth 65536 in
set_option maxHeartbeats 40000000 in
theorem rm3 (l : Launch) (Z : State) (a0 : Array Value) (hw : ∀ d ∈ tables_1, d.before a0 Z = true) (ws : List Jvm.Cond) (q1 : Int64) (q2 : Int64) (p3 : Int32) (q4 : Int64) (h0 : Heap) (n0 : Nat) (Z0 : n0 ≤ h0.size) :
    MetFree l (⟨"com/example/arnero/arnero/HashScheme", "place", "(JJIJ)J"⟩ : MethodName) (head1 (Jvm.Cond.code (⟨"com/example/arnero/arnero/HashScheme", "place", "(JJIJ)J"⟩ : MethodName) prog_6_method_4_code 9 (some .long) :: ws) ({ frames := 1, cells := 0, slots := 0, locals := 31 } : Room)) (fun a U => a = #[(.long q1), (.long q2), (.int p3), (.long q4)] ∧ Z.Warmed39 U.vm ∧ U.heap = h0) (fun _ _ _ _ _ => True) (fun _ U o U' => ∃ v L, o = .returned v ∧ QP (.long (f3 q1 q2 p3 q4)) h0 n0 v U'.heap L ∧ FrameEnd U o U' L ({ frames := 1, cells := 0, slots := 0, locals := 31 } : Room).cells ({ frames := 1, cells := 0, slots := 0, locals := 31 } : Room).slots) := by
  refine MetFree.of_bodySF (plainFor_of_name pn_1) hisR ?_
  intro p e s m args below meth c s₁ Bd hml0 hP hK
  obtain ⟨rfl, hZ, hh⟩ := hP
  have hx := Bd.exec
  have hby := Bd.bytes
  have hml : c.maxLocals = 9 := hml0
  have hown : s.vm.findClass "com/example/arnero/arnero/HashScheme" = some m.cls := findClass_of_methodNamed Bd.named
  have hnm := (name_of_methodNamed Bd.named Bd.method).1
  have X0 : Stand p l e ({ frames := 1, cells := 0, slots := 0, locals := 31 } : Room) s m #[(.long q1), (.long q2), (.int p3), (.long q4)] below meth c s₁ [] 0 0 := Stand.of_body Bd
  have e0 : s₁.heap = h0 := by rw [← hh, Bd.state]; rfl
  have N0 := Fr.nil n0
  refine Go.done (Go.step (fun t k => castTop (ef_3 m q1 q2 p3 q4) k) ?_)
  show Go p e below _ (s₁.setTop (mkF m 0 #[.val (.long q1), .second, .val (.long q2), .second, .val (.int p3), .val (.long q4), .second, .unset, .unset] []))
  refine Go.step (fun t k => XS.lloadN X0.here hx rfl (hb hby d3_0) rfl k) ?_
  show Go p e below _ (s₁.setTop (mkF m 1 #[.val (.long q1), .second, .val (.long q2), .second, .val (.int p3), .val (.long q4), .second, .unset, .unset] [(.long q1)]))
  refine Go.step (fun t k => XS.iload X0.here hx rfl (hb hby d3_1) rfl k) ?_
  show Go p e below _ (s₁.setTop (mkF m 3 #[.val (.long q1), .second, .val (.long q2), .second, .val (.int p3), .val (.long q4), .second, .unset, .unset] [(.int p3), (.long q1)]))
  refine Go.step (fun t k => XS.i2l X0.here hx rfl (hb hby d3_3) rfl k) ?_
  show Go p e below _ (s₁.setTop (mkF m 4 #[.val (.long q1), .second, .val (.long q2), .second, .val (.int p3), .val (.long q4), .second, .unset, .unset] [(.long (p3.toInt64)), (.long q1)]))
  refine Go.step (fun t k => XS.lloadN X0.here hx rfl (hb hby d3_4) rfl k) ?_
  show Go p e below _ (s₁.setTop (mkF m 5 #[.val (.long q1), .second, .val (.long q2), .second, .val (.int p3), .val (.long q4), .second, .unset, .unset] [(.long q2), (.long (p3.toInt64)), (.long q1)]))
  refine Go.step (fun t k => XS.lmul X0.here hx rfl (hb hby d3_5) rfl k) ?_
  show Go p e below _ (s₁.setTop (mkF m 6 #[.val (.long q1), .second, .val (.long q2), .second, .val (.int p3), .val (.long q4), .second, .unset, .unset] [(.long ((p3.toInt64) * q2)), (.long q1)]))
  refine Go.step (fun t k => XS.ladd X0.here hx rfl (hb hby d3_6) rfl k) ?_
  show Go p e below _ (s₁.setTop (mkF m 7 #[.val (.long q1), .second, .val (.long q2), .second, .val (.int p3), .val (.long q4), .second, .unset, .unset] [(.long (q1 + ((p3.toInt64) * q2)))]))
  obtain ⟨v5, hv5⟩ : ∃ z : Int64, z = (q1 + ((p3.toInt64) * q2)) := ⟨_, rfl⟩
  rw [← hv5]
  show Go p e below _ (s₁.setTop (mkF m 7 #[.val (.long q1), .second, .val (.long q2), .second, .val (.int p3), .val (.long q4), .second, .unset, .unset] [(.long v5)]))
  refine Go.step (fun t k => XS.lstore X0.here hx rfl (hb hby d3_7) rfl (l' := #[.val (.long q1), .second, .val (.long q2), .second, .val (.int p3), .val (.long q4), .second, .val (.long v5), .second]) rfl k) ?_
  show Go p e below _ (s₁.setTop (mkF m 9 #[.val (.long q1), .second, .val (.long q2), .second, .val (.int p3), .val (.long q4), .second, .val (.long v5), .second] []))
  refine Go.step (fun t k => XS.lload X0.here hx rfl (hb hby d3_9) rfl k) ?_
  show Go p e below _ (s₁.setTop (mkF m 11 #[.val (.long q1), .second, .val (.long q2), .second, .val (.int p3), .val (.long q4), .second, .val (.long v5), .second] [(.long v5)]))
  refine Go.step (fun t k => XS.lload X0.here hx rfl (hb hby d3_11) rfl k) ?_
  show Go p e below _ (s₁.setTop (mkF m 13 #[.val (.long q1), .second, .val (.long q2), .second, .val (.int p3), .val (.long q4), .second, .val (.long v5), .second] [(.long q4), (.long v5)]))
  obtain ⟨_, _, ⟨T6, L6, k6, n6⟩, -, X6, ⟨Lc6, hQ6, l6, y6, z6⟩, st6⟩ := Jvm.LawKit.callS X0 hx (y := (⟨"java/lang/Math", "multiplyHigh", "(JJ)J"⟩ : MethodName)) hown (mvT hZ (hw _ (List.mem_of_getElem? (i := 15) rfl))) (mvT hZ (hw _ (List.mem_of_getElem? (i := 16) rfl))) (mvT hZ (hw _ (List.mem_of_getElem? (i := 4) rfl))) (mvT hZ (hw _ (List.mem_of_getElem? (i := 17) rfl))) (by decide) (backOf (W := 0) (rm4 l Z a0 hw [] v5 q4 h0 n0 Z0) hZ (hw _ (List.mem_of_getElem? (i := 17) rfl)) (hw _ (List.mem_of_getElem? (i := 4) rfl)) (by decide) (by decide)) (g := (mkF m 13 #[.val (.long q1), .second, .val (.long q2), .second, .val (.int p3), .val (.long q4), .second, .val (.long v5), .second] [(.long q4), (.long v5)])) rfl (by rw [hml]; rfl) (argsL := [(.long v5), (.long q4)]) (rest := []) (lenOf pd_0 rfl) rfl (by show 2 * 0 + _ ≤ _; exact Nat.le_of_eq rfl) (hb hby d3_13) (fun _ _ => ⟨rfl, e0, (by decide : 0 + 0 ≤ _), (by decide : 0 + 0 ≤ _)⟩)
  dsimp only [Pt.U, Pt.locs, Pt.cells, Pt.slots] at X6 l6 y6 z6 st6 hQ6
  subst l6 y6 z6
  obtain ⟨rfl, N6q, e6⟩ := hQ6
  have N6 := Fr.app N0 N6q
  refine Go.step st6 ?_
  show Go p e below _ (T6.setTop (mkF m 16 #[.val (.long q1), .second, .val (.long q2), .second, .val (.int p3), .val (.long q4), .second, .val (.long v5), .second] [(.long (f4 v5 q4))]))
  refine Go.step (fun t k => XS.lload X6.here hx rfl (hb hby d3_16) rfl k) ?_
  show Go p e below _ (T6.setTop (mkF m 18 #[.val (.long q1), .second, .val (.long q2), .second, .val (.int p3), .val (.long q4), .second, .val (.long v5), .second] [(.long v5), (.long (f4 v5 q4))]))
  refine Go.step (fun t k => XS.bipush X6.here hx rfl (hb hby d3_18)  k) ?_
  show Go p e below _ (T6.setTop (mkF m 20 #[.val (.long q1), .second, .val (.long q2), .second, .val (.int p3), .val (.long q4), .second, .val (.long v5), .second] [(.int (63 : Int32)), (.long v5), (.long (f4 v5 q4))]))
  refine Go.step (fun t k => XS.lshr X6.here hx rfl (hb hby d3_20) rfl k) ?_
  show Go p e below _ (T6.setTop (mkF m 21 #[.val (.long q1), .second, .val (.long q2), .second, .val (.int p3), .val (.long q4), .second, .val (.long v5), .second] [(.long (v5 >>> ((63 : Int32) &&& 0x3f).toInt64)), (.long (f4 v5 q4))]))
  refine Go.step (fun t k => XS.lload X6.here hx rfl (hb hby d3_21) rfl k) ?_
  show Go p e below _ (T6.setTop (mkF m 23 #[.val (.long q1), .second, .val (.long q2), .second, .val (.int p3), .val (.long q4), .second, .val (.long v5), .second] [(.long q4), (.long (v5 >>> ((63 : Int32) &&& 0x3f).toInt64)), (.long (f4 v5 q4))]))
  refine Go.step (fun t k => XS.land X6.here hx rfl (hb hby d3_23) rfl k) ?_
  show Go p e below _ (T6.setTop (mkF m 24 #[.val (.long q1), .second, .val (.long q2), .second, .val (.int p3), .val (.long q4), .second, .val (.long v5), .second] [(.long ((v5 >>> ((63 : Int32) &&& 0x3f).toInt64) &&& q4)), (.long (f4 v5 q4))]))
  refine Go.step (fun t k => XS.ladd X6.here hx rfl (hb hby d3_24) rfl k) ?_
  show Go p e below _ (T6.setTop (mkF m 25 #[.val (.long q1), .second, .val (.long q2), .second, .val (.int p3), .val (.long q4), .second, .val (.long v5), .second] [(.long ((f4 v5 q4) + ((v5 >>> ((63 : Int32) &&& 0x3f).toInt64) &&& q4)))]))
  subst hv5
  exact retGJ X6 hx Bd.notSynchronized Bd.returns (hb hby d3_25) ⟨by first | rfl | (simp only [f3]; done) | (simp [f3]; done), N6, e6⟩ (by decide) (by decide)
theorem pd_1 : parseMethodDescriptor "(JJIJ)J" = some ⟨[.long, .long, .int, .long], some .long⟩ := by decide +kernel
theorem ef_0 (m : MethodId) (q1 : Int64) (q2 : Int64) (p3 : Int32) (q4 : Int64) (p5 : Int32) : entryFrame m #[(.long q1), (.long q2), (.int p3), (.long q4), (.int p5)] maxLocals = mkF m 0 #[.val (.long q1), .second, .val (.long q2), .second, .val (.int p3), .val (.long q4), .second, .val (.int p5), .unset, .unset, .unset, .unset, .unset, .unset, .unset, .unset, .unset] [] := by first | (simp [entryFrame, mkF, argsToLocals, Value.category, maxLocals]; done) | rfl
def f0 (q1 : Int64) (q2 : Int64) (p3 : Int32) (q4 : Int64) (p5 : Int32) : Int32 := (if (f3 q1 q2 (p3 &&& (2147483647 : Int32)) (if (p5 &&& (1 : Int32)) = (0 : Int32) then (f1 (1 : Int64) (q4 &&& (9223372036854775807 : Int64))) else ((q4 &&& (65535 : Int64)) + (1 : Int64)))) = (f2 (q1 + (((p3 &&& (2147483647 : Int32)).toInt64) * q2)) (if (p5 &&& (1 : Int32)) = (0 : Int32) then (f1 (1 : Int64) (q4 &&& (9223372036854775807 : Int64))) else ((q4 &&& (65535 : Int64)) + (1 : Int64)))) then (if (f3 q1 q2 (p3 &&& (2147483647 : Int32)) (if (p5 &&& (1 : Int32)) = (0 : Int32) then (f1 (1 : Int64) (q4 &&& (9223372036854775807 : Int64))) else ((q4 &&& (65535 : Int64)) + (1 : Int64)))) < (0 : Int64) then (0 : Int32) else (if (f3 q1 q2 (p3 &&& (2147483647 : Int32)) (if (p5 &&& (1 : Int32)) = (0 : Int32) then (f1 (1 : Int64) (q4 &&& (9223372036854775807 : Int64))) else ((q4 &&& (65535 : Int64)) + (1 : Int64)))) < (if (p5 &&& (1 : Int32)) = (0 : Int32) then (f1 (1 : Int64) (q4 &&& (9223372036854775807 : Int64))) else ((q4 &&& (65535 : Int64)) + (1 : Int64))) then (1 : Int32) else (0 : Int32))) else (0 : Int32))
set_option maxRecDepth 65536 in
set_option maxHeartbeats 40000000 in
theorem rm0 (l : Launch) (Z : State) (a0 : Array Value) (hw : ∀ d ∈ tables_1, d.before a0 Z = true) (ws : List Jvm.Cond) (q1 : Int64) (q2 : Int64) (p3 : Int32) (q4 : Int64) (p5 : Int32) (h0 : Heap) (n0 : Nat) (Z0 : n0 ≤ h0.size) :
    MetFree l x (head1 (Jvm.Cond.code x code maxLocals ret :: ws) room_1) (fun a U => a = #[(.long q1), (.long q2), (.int p3), (.long q4), (.int p5)] ∧ Z.Warmed39 U.vm ∧ U.heap = h0) (fun _ _ _ _ _ => True) (fun _ U o U' => ∃ v L, o = .returned v ∧ QP (.int (f0 q1 q2 p3 q4 p5)) h0 n0 v U'.heap L ∧ FrameEnd U o U' L room_1.cells room_1.slots) := by
  refine MetFree.of_bodySF (plainFor_of_name pn_0) hisR ?_
  intro p e s m args below meth c s₁ Bd hml0 hP hK
  obtain ⟨rfl, hZ, hh⟩ := hP
  have hx := Bd.exec
  have hby := Bd.bytes
  have hml : c.maxLocals = 17 := hml0
  have hown : s.vm.findClass "com/example/arnero/arnero/HashSchemePlacePinLaw" = some m.cls := findClass_of_methodNamed Bd.named
  have hnm := (name_of_methodNamed Bd.named Bd.method).1
  have X0 : Stand p l e room_1 s m #[(.long q1), (.long q2), (.int p3), (.long q4), (.int p5)] below meth c s₁ [] 0 0 := Stand.of_body Bd
  have e0 : s₁.heap = h0 := by rw [← hh, Bd.state]; rfl
  have N0 := Fr.nil n0
  refine Go.done (Go.step (fun t k => castTop (ef_0 m q1 q2 p3 q4 p5) k) ?_)
  show Go p e below _ (s₁.setTop (mkF m 0 #[.val (.long q1), .second, .val (.long q2), .second, .val (.int p3), .val (.long q4), .second, .val (.int p5), .unset, .unset, .unset, .unset, .unset, .unset, .unset, .unset, .unset] []))
  refine Go.step (fun t k => XS.iload X0.here hx rfl (hb hby at_0) rfl k) ?_
  show Go p e below _ (s₁.setTop (mkF m 2 #[.val (.long q1), .second, .val (.long q2), .second, .val (.int p3), .val (.long q4), .second, .val (.int p5), .unset, .unset, .unset, .unset, .unset, .unset, .unset, .unset, .unset] [(.int p3)]))
  refine Go.step (X0.ldcInt hx hown (mvT hZ (hw _ (List.mem_of_getElem? (i := 0) rfl))) (g := (mkF m 2 #[.val (.long q1), .second, .val (.long q2), .second, .val (.int p3), .val (.long q4), .second, .val (.int p5), .unset, .unset, .unset, .unset, .unset, .unset, .unset, .unset, .unset] [(.int p3)])) rfl (hb hby at_2)) ?_
  show Go p e below _ (s₁.setTop (mkF m 4 #[.val (.long q1), .second, .val (.long q2), .second, .val (.int p3), .val (.long q4), .second, .val (.int p5), .unset, .unset, .unset, .unset, .unset, .unset, .unset, .unset, .unset] [(.int (2147483647 : Int32)), (.int p3)]))
  refine Go.step (fun t k => XS.iand X0.here hx rfl (hb hby at_4) rfl k) ?_
  show Go p e below _ (s₁.setTop (mkF m 5 #[.val (.long q1), .second, .val (.long q2), .second, .val (.int p3), .val (.long q4), .second, .val (.int p5), .unset, .unset, .unset, .unset, .unset, .unset, .unset, .unset, .unset] [(.int (p3 &&& (2147483647 : Int32)))]))
  obtain ⟨v6, hv6⟩ : ∃ z : Int32, z = (p3 &&& (2147483647 : Int32)) := ⟨_, rfl⟩
  rw [← hv6]
  show Go p e below _ (s₁.setTop (mkF m 5 #[.val (.long q1), .second, .val (.long q2), .second, .val (.int p3), .val (.long q4), .second, .val (.int p5), .unset, .unset, .unset, .unset, .unset, .unset, .unset, .unset, .unset] [(.int v6)]))
  refine Go.step (fun t k => XS.istore X0.here hx rfl (hb hby at_5) rfl (l' := #[.val (.long q1), .second, .val (.long q2), .second, .val (.int p3), .val (.long q4), .second, .val (.int p5), .val (.int v6), .unset, .unset, .unset, .unset, .unset, .unset, .unset, .unset]) rfl k) ?_
  show Go p e below _ (s₁.setTop (mkF m 7 #[.val (.long q1), .second, .val (.long q2), .second, .val (.int p3), .val (.long q4), .second, .val (.int p5), .val (.int v6), .unset, .unset, .unset, .unset, .unset, .unset, .unset, .unset] []))
  refine Go.step (fun t k => XS.iload X0.here hx rfl (hb hby at_7) rfl k) ?_
  show Go p e below _ (s₁.setTop (mkF m 9 #[.val (.long q1), .second, .val (.long q2), .second, .val (.int p3), .val (.long q4), .second, .val (.int p5), .val (.int v6), .unset, .unset, .unset, .unset, .unset, .unset, .unset, .unset] [(.int p5)]))
  refine Go.step (fun t k => XS.iconst X0.here hx rfl (hb hby at_9)  k) ?_
  show Go p e below _ (s₁.setTop (mkF m 10 #[.val (.long q1), .second, .val (.long q2), .second, .val (.int p3), .val (.long q4), .second, .val (.int p5), .val (.int v6), .unset, .unset, .unset, .unset, .unset, .unset, .unset, .unset] [(.int (1 : Int32)), (.int p5)]))
  refine Go.step (fun t k => XS.iand X0.here hx rfl (hb hby at_10) rfl k) ?_
  show Go p e below _ (s₁.setTop (mkF m 11 #[.val (.long q1), .second, .val (.long q2), .second, .val (.int p3), .val (.long q4), .second, .val (.int p5), .val (.int v6), .unset, .unset, .unset, .unset, .unset, .unset, .unset, .unset] [(.int (p5 &&& (1 : Int32)))]))
  obtain ⟨v11, hv11⟩ : ∃ z : Int64, z = (if (p5 &&& (1 : Int32)) = (0 : Int32) then (f1 (1 : Int64) (q4 &&& (9223372036854775807 : Int64))) else ((q4 &&& (65535 : Int64)) + (1 : Int64))) := ⟨_, rfl⟩
  have J11 : Go p e below (AtF p l e room_1 s m #[(.long q1), (.long q2), (.int p3), (.long q4), (.int p5)] below meth c n0 0 0 h0 (mkF m 39 #[.val (.long q1), .second, .val (.long q2), .second, .val (.int p3), .val (.long q4), .second, .val (.int p5), .val (.int v6), .val (.long v11), .second, .unset, .unset, .unset, .unset, .unset, .unset] [])) (s₁.setTop (mkF m 11 #[.val (.long q1), .second, .val (.long q2), .second, .val (.int p3), .val (.long q4), .second, .val (.int p5), .val (.int v6), .unset, .unset, .unset, .unset, .unset, .unset, .unset, .unset] [(.int (p5 &&& (1 : Int32)))])) := by
    by_cases hc7 : (p5 &&& (1 : Int32)) = (0 : Int32)
    · refine Go.step (fun t k => XS.ifYes X0.here hx rfl (pc0 := 11) (pc' := 27) rfl (hb hby at_11) rfl ((if0 _ _).trans (teq hc7).1) (by decide) (by decide) k) ?_
      show Go p e below _ (s₁.setTop (mkF m 27 #[.val (.long q1), .second, .val (.long q2), .second, .val (.int p3), .val (.long q4), .second, .val (.int p5), .val (.int v6), .unset, .unset, .unset, .unset, .unset, .unset, .unset, .unset] []))
      refine Go.step (fun t k => XS.lconst X0.here hx rfl (hb hby at_27)  k) ?_
      show Go p e below _ (s₁.setTop (mkF m 28 #[.val (.long q1), .second, .val (.long q2), .second, .val (.int p3), .val (.long q4), .second, .val (.int p5), .val (.int v6), .unset, .unset, .unset, .unset, .unset, .unset, .unset, .unset] [(.long (1 : Int64))]))
      refine Go.step (fun t k => XS.lload X0.here hx rfl (hb hby at_28) rfl k) ?_
      show Go p e below _ (s₁.setTop (mkF m 30 #[.val (.long q1), .second, .val (.long q2), .second, .val (.int p3), .val (.long q4), .second, .val (.int p5), .val (.int v6), .unset, .unset, .unset, .unset, .unset, .unset, .unset, .unset] [(.long q4), (.long (1 : Int64))]))
      refine Go.step (X0.ldc2Long hx hown (mvT hZ (hw _ (List.mem_of_getElem? (i := 1) rfl))) (g := (mkF m 30 #[.val (.long q1), .second, .val (.long q2), .second, .val (.int p3), .val (.long q4), .second, .val (.int p5), .val (.int v6), .unset, .unset, .unset, .unset, .unset, .unset, .unset, .unset] [(.long q4), (.long (1 : Int64))])) rfl (hb hby at_30)) ?_
      show Go p e below _ (s₁.setTop (mkF m 33 #[.val (.long q1), .second, .val (.long q2), .second, .val (.int p3), .val (.long q4), .second, .val (.int p5), .val (.int v6), .unset, .unset, .unset, .unset, .unset, .unset, .unset, .unset] [(.long (9223372036854775807 : Int64)), (.long q4), (.long (1 : Int64))]))
      refine Go.step (fun t k => XS.land X0.here hx rfl (hb hby at_33) rfl k) ?_
      show Go p e below _ (s₁.setTop (mkF m 34 #[.val (.long q1), .second, .val (.long q2), .second, .val (.int p3), .val (.long q4), .second, .val (.int p5), .val (.int v6), .unset, .unset, .unset, .unset, .unset, .unset, .unset, .unset] [(.long (q4 &&& (9223372036854775807 : Int64))), (.long (1 : Int64))]))
      obtain ⟨_, _, ⟨T8, L8, k8, n8⟩, -, X8, ⟨Lc8, hQ8, l8, y8, z8⟩, st8⟩ := Jvm.LawKit.callS X0 hx (y := (⟨"java/lang/Math", "max", "(JJ)J"⟩ : MethodName)) hown (mvT hZ (hw _ (List.mem_of_getElem? (i := 2) rfl))) (mvT hZ (hw _ (List.mem_of_getElem? (i := 3) rfl))) (mvT hZ (hw _ (List.mem_of_getElem? (i := 4) rfl))) (mvT hZ (hw _ (List.mem_of_getElem? (i := 5) rfl))) (by decide) (backOf (W := 0) (rm1 l Z a0 hw [] (1 : Int64) (q4 &&& (9223372036854775807 : Int64)) h0 n0 Z0) hZ (hw _ (List.mem_of_getElem? (i := 5) rfl)) (hw _ (List.mem_of_getElem? (i := 4) rfl)) (by decide) (by decide)) (g := (mkF m 34 #[.val (.long q1), .second, .val (.long q2), .second, .val (.int p3), .val (.long q4), .second, .val (.int p5), .val (.int v6), .unset, .unset, .unset, .unset, .unset, .unset, .unset, .unset] [(.long (q4 &&& (9223372036854775807 : Int64))), (.long (1 : Int64))])) rfl (by rw [hml]; rfl) (argsL := [(.long (1 : Int64)), (.long (q4 &&& (9223372036854775807 : Int64)))]) (rest := []) (lenOf pd_0 rfl) rfl (by show 2 * 0 + _ ≤ _; exact Nat.le_of_eq rfl) (hb hby at_34) (fun _ _ => ⟨rfl, e0, (by decide : 0 + 0 ≤ _), (by decide : 0 + 0 ≤ _)⟩)
      dsimp only [Pt.U, Pt.locs, Pt.cells, Pt.slots] at X8 l8 y8 z8 st8 hQ8
      subst l8 y8 z8
      obtain ⟨rfl, N8q, e8⟩ := hQ8
      have N8 := Fr.app N0 N8q
      refine Go.step st8 ?_
      show Go p e below _ (T8.setTop (mkF m 37 #[.val (.long q1), .second, .val (.long q2), .second, .val (.int p3), .val (.long q4), .second, .val (.int p5), .val (.int v6), .unset, .unset, .unset, .unset, .unset, .unset, .unset, .unset] [(.long (f1 (1 : Int64) (q4 &&& (9223372036854775807 : Int64))))]))
      obtain ⟨v9, hv9⟩ : ∃ z : Int64, z = (f1 (1 : Int64) (q4 &&& (9223372036854775807 : Int64))) := ⟨_, rfl⟩
      rw [← hv9]
      show Go p e below _ (T8.setTop (mkF m 37 #[.val (.long q1), .second, .val (.long q2), .second, .val (.int p3), .val (.long q4), .second, .val (.int p5), .val (.int v6), .unset, .unset, .unset, .unset, .unset, .unset, .unset, .unset] [(.long v9)]))
      refine Go.step (fun t k => XS.lstore X8.here hx rfl (hb hby at_37) rfl (l' := #[.val (.long q1), .second, .val (.long q2), .second, .val (.int p3), .val (.long q4), .second, .val (.int p5), .val (.int v6), .val (.long v9), .second, .unset, .unset, .unset, .unset, .unset, .unset]) rfl k) ?_
      subst hv9
      exact Go.here ⟨_, _, by simp only [hv11, if_pos hc7], X8, N8, e8⟩
    · refine Go.step (fun t k => XS.ifNo X0.here hx rfl (hb hby at_11) rfl ((if0 _ _).trans (feq hc7).1) k) ?_
      show Go p e below _ (s₁.setTop (mkF m 14 #[.val (.long q1), .second, .val (.long q2), .second, .val (.int p3), .val (.long q4), .second, .val (.int p5), .val (.int v6), .unset, .unset, .unset, .unset, .unset, .unset, .unset, .unset] []))
      refine Go.step (fun t k => XS.lload X0.here hx rfl (hb hby at_14) rfl k) ?_
      show Go p e below _ (s₁.setTop (mkF m 16 #[.val (.long q1), .second, .val (.long q2), .second, .val (.int p3), .val (.long q4), .second, .val (.int p5), .val (.int v6), .unset, .unset, .unset, .unset, .unset, .unset, .unset, .unset] [(.long q4)]))
      refine Go.step (X0.ldc2Long hx hown (mvT hZ (hw _ (List.mem_of_getElem? (i := 19) rfl))) (g := (mkF m 16 #[.val (.long q1), .second, .val (.long q2), .second, .val (.int p3), .val (.long q4), .second, .val (.int p5), .val (.int v6), .unset, .unset, .unset, .unset, .unset, .unset, .unset, .unset] [(.long q4)])) rfl (hb hby at_16)) ?_
      show Go p e below _ (s₁.setTop (mkF m 19 #[.val (.long q1), .second, .val (.long q2), .second, .val (.int p3), .val (.long q4), .second, .val (.int p5), .val (.int v6), .unset, .unset, .unset, .unset, .unset, .unset, .unset, .unset] [(.long (65535 : Int64)), (.long q4)]))
      refine Go.step (fun t k => XS.land X0.here hx rfl (hb hby at_19) rfl k) ?_
      show Go p e below _ (s₁.setTop (mkF m 20 #[.val (.long q1), .second, .val (.long q2), .second, .val (.int p3), .val (.long q4), .second, .val (.int p5), .val (.int v6), .unset, .unset, .unset, .unset, .unset, .unset, .unset, .unset] [(.long (q4 &&& (65535 : Int64)))]))
      refine Go.step (fun t k => XS.lconst X0.here hx rfl (hb hby at_20)  k) ?_
      show Go p e below _ (s₁.setTop (mkF m 21 #[.val (.long q1), .second, .val (.long q2), .second, .val (.int p3), .val (.long q4), .second, .val (.int p5), .val (.int v6), .unset, .unset, .unset, .unset, .unset, .unset, .unset, .unset] [(.long (1 : Int64)), (.long (q4 &&& (65535 : Int64)))]))
      refine Go.step (fun t k => XS.ladd X0.here hx rfl (hb hby at_21) rfl k) ?_
      show Go p e below _ (s₁.setTop (mkF m 22 #[.val (.long q1), .second, .val (.long q2), .second, .val (.int p3), .val (.long q4), .second, .val (.int p5), .val (.int v6), .unset, .unset, .unset, .unset, .unset, .unset, .unset, .unset] [(.long ((q4 &&& (65535 : Int64)) + (1 : Int64)))]))
      obtain ⟨v10, hv10⟩ : ∃ z : Int64, z = ((q4 &&& (65535 : Int64)) + (1 : Int64)) := ⟨_, rfl⟩
      rw [← hv10]
      show Go p e below _ (s₁.setTop (mkF m 22 #[.val (.long q1), .second, .val (.long q2), .second, .val (.int p3), .val (.long q4), .second, .val (.int p5), .val (.int v6), .unset, .unset, .unset, .unset, .unset, .unset, .unset, .unset] [(.long v10)]))
      refine Go.step (fun t k => XS.lstore X0.here hx rfl (hb hby at_22) rfl (l' := #[.val (.long q1), .second, .val (.long q2), .second, .val (.int p3), .val (.long q4), .second, .val (.int p5), .val (.int v6), .val (.long v10), .second, .unset, .unset, .unset, .unset, .unset, .unset]) rfl k) ?_
      show Go p e below _ (s₁.setTop (mkF m 24 #[.val (.long q1), .second, .val (.long q2), .second, .val (.int p3), .val (.long q4), .second, .val (.int p5), .val (.int v6), .val (.long v10), .second, .unset, .unset, .unset, .unset, .unset, .unset] []))
      refine Go.step (fun t k => XS.goto X0.here hx rfl (pc0 := 24) (pc' := 39) rfl (hb hby at_24) (by decide) (by decide) k) ?_
      subst hv10
      exact Go.here ⟨_, _, by simp only [hv11, if_neg hc7], X0, N0, e0⟩
  obtain ⟨_, st12, T12, Lj12, rfl, X12, N12, e12⟩ := J11
  refine Go.trans st12 ?_
  show Go p e below _ (T12.setTop (mkF m 39 #[.val (.long q1), .second, .val (.long q2), .second, .val (.int p3), .val (.long q4), .second, .val (.int p5), .val (.int v6), .val (.long v11), .second, .unset, .unset, .unset, .unset, .unset, .unset] []))
  refine Go.step (fun t k => XS.lloadN X12.here hx rfl (hb hby at_39) rfl k) ?_
  show Go p e below _ (T12.setTop (mkF m 40 #[.val (.long q1), .second, .val (.long q2), .second, .val (.int p3), .val (.long q4), .second, .val (.int p5), .val (.int v6), .val (.long v11), .second, .unset, .unset, .unset, .unset, .unset, .unset] [(.long q1)]))
  refine Go.step (fun t k => XS.iload X12.here hx rfl (hb hby at_40) rfl k) ?_
  show Go p e below _ (T12.setTop (mkF m 42 #[.val (.long q1), .second, .val (.long q2), .second, .val (.int p3), .val (.long q4), .second, .val (.int p5), .val (.int v6), .val (.long v11), .second, .unset, .unset, .unset, .unset, .unset, .unset] [(.int v6), (.long q1)]))
  refine Go.step (fun t k => XS.i2l X12.here hx rfl (hb hby at_42) rfl k) ?_
  show Go p e below _ (T12.setTop (mkF m 43 #[.val (.long q1), .second, .val (.long q2), .second, .val (.int p3), .val (.long q4), .second, .val (.int p5), .val (.int v6), .val (.long v11), .second, .unset, .unset, .unset, .unset, .unset, .unset] [(.long (v6.toInt64)), (.long q1)]))
  refine Go.step (fun t k => XS.lloadN X12.here hx rfl (hb hby at_43) rfl k) ?_
  show Go p e below _ (T12.setTop (mkF m 44 #[.val (.long q1), .second, .val (.long q2), .second, .val (.int p3), .val (.long q4), .second, .val (.int p5), .val (.int v6), .val (.long v11), .second, .unset, .unset, .unset, .unset, .unset, .unset] [(.long q2), (.long (v6.toInt64)), (.long q1)]))
  refine Go.step (fun t k => XS.lmul X12.here hx rfl (hb hby at_44) rfl k) ?_
  show Go p e below _ (T12.setTop (mkF m 45 #[.val (.long q1), .second, .val (.long q2), .second, .val (.int p3), .val (.long q4), .second, .val (.int p5), .val (.int v6), .val (.long v11), .second, .unset, .unset, .unset, .unset, .unset, .unset] [(.long ((v6.toInt64) * q2)), (.long q1)]))
  refine Go.step (fun t k => XS.ladd X12.here hx rfl (hb hby at_45) rfl k) ?_
  show Go p e below _ (T12.setTop (mkF m 46 #[.val (.long q1), .second, .val (.long q2), .second, .val (.int p3), .val (.long q4), .second, .val (.int p5), .val (.int v6), .val (.long v11), .second, .unset, .unset, .unset, .unset, .unset, .unset] [(.long (q1 + ((v6.toInt64) * q2)))]))
  obtain ⟨v13, hv13⟩ : ∃ z : Int64, z = (q1 + ((v6.toInt64) * q2)) := ⟨_, rfl⟩
  rw [← hv13]
  show Go p e below _ (T12.setTop (mkF m 46 #[.val (.long q1), .second, .val (.long q2), .second, .val (.int p3), .val (.long q4), .second, .val (.int p5), .val (.int v6), .val (.long v11), .second, .unset, .unset, .unset, .unset, .unset, .unset] [(.long v13)]))
  refine Go.step (fun t k => XS.lstore X12.here hx rfl (hb hby at_46) rfl (l' := #[.val (.long q1), .second, .val (.long q2), .second, .val (.int p3), .val (.long q4), .second, .val (.int p5), .val (.int v6), .val (.long v11), .second, .val (.long v13), .second, .unset, .unset, .unset, .unset]) rfl k) ?_
  show Go p e below _ (T12.setTop (mkF m 48 #[.val (.long q1), .second, .val (.long q2), .second, .val (.int p3), .val (.long q4), .second, .val (.int p5), .val (.int v6), .val (.long v11), .second, .val (.long v13), .second, .unset, .unset, .unset, .unset] []))
  refine Go.step (fun t k => XS.lload X12.here hx rfl (hb hby at_48) rfl k) ?_
  show Go p e below _ (T12.setTop (mkF m 50 #[.val (.long q1), .second, .val (.long q2), .second, .val (.int p3), .val (.long q4), .second, .val (.int p5), .val (.int v6), .val (.long v11), .second, .val (.long v13), .second, .unset, .unset, .unset, .unset] [(.long v13)]))
  refine Go.step (fun t k => XS.lload X12.here hx rfl (hb hby at_50) rfl k) ?_
  show Go p e below _ (T12.setTop (mkF m 52 #[.val (.long q1), .second, .val (.long q2), .second, .val (.int p3), .val (.long q4), .second, .val (.int p5), .val (.int v6), .val (.long v11), .second, .val (.long v13), .second, .unset, .unset, .unset, .unset] [(.long v11), (.long v13)]))
  obtain ⟨_, _, ⟨T14, L14, k14, n14⟩, -, X14, ⟨Lc14, hQ14, l14, y14, z14⟩, st14⟩ := Jvm.LawKit.callS X12 hx (y := (⟨"com/example/arnero/arnero/HashSchemePlacePinLaw", "unsignedHigh", "(JJ)J"⟩ : MethodName)) hown (mvT hZ (hw _ (List.mem_of_getElem? (i := 6) rfl))) (mvT hZ (hw _ (List.mem_of_getElem? (i := 7) rfl))) (mvT hZ (hw _ (List.mem_of_getElem? (i := 8) rfl))) (mvT hZ (hw _ (List.mem_of_getElem? (i := 9) rfl))) (by decide) (backOf (W := 0) (rm2 l Z a0 hw [] v13 v11 h0 n0 Z0) hZ (hw _ (List.mem_of_getElem? (i := 9) rfl)) (hw _ (List.mem_of_getElem? (i := 8) rfl)) (by decide) (by decide)) (g := (mkF m 52 #[.val (.long q1), .second, .val (.long q2), .second, .val (.int p3), .val (.long q4), .second, .val (.int p5), .val (.int v6), .val (.long v11), .second, .val (.long v13), .second, .unset, .unset, .unset, .unset] [(.long v11), (.long v13)])) rfl (by rw [hml]; rfl) (argsL := [(.long v13), (.long v11)]) (rest := []) (lenOf pd_0 rfl) rfl (by show 2 * 0 + _ ≤ _; exact Nat.le_of_eq rfl) (hb hby at_52) (fun _ _ => ⟨rfl, e12, (by decide : 0 + 0 ≤ _), (by decide : 0 + 0 ≤ _)⟩)
  dsimp only [Pt.U, Pt.locs, Pt.cells, Pt.slots] at X14 l14 y14 z14 st14 hQ14
  subst l14 y14 z14
  obtain ⟨rfl, N14q, e14⟩ := hQ14
  have N14 := Fr.app N12 N14q
  refine Go.step st14 ?_
  show Go p e below _ (T14.setTop (mkF m 55 #[.val (.long q1), .second, .val (.long q2), .second, .val (.int p3), .val (.long q4), .second, .val (.int p5), .val (.int v6), .val (.long v11), .second, .val (.long v13), .second, .unset, .unset, .unset, .unset] [(.long (f2 v13 v11))]))
  refine Go.step (fun t k => XS.lstore X14.here hx rfl (hb hby at_55) rfl (l' := #[.val (.long q1), .second, .val (.long q2), .second, .val (.int p3), .val (.long q4), .second, .val (.int p5), .val (.int v6), .val (.long v11), .second, .val (.long v13), .second, .val (.long (f2 v13 v11)), .second, .unset, .unset]) rfl k) ?_
  show Go p e below _ (T14.setTop (mkF m 57 #[.val (.long q1), .second, .val (.long q2), .second, .val (.int p3), .val (.long q4), .second, .val (.int p5), .val (.int v6), .val (.long v11), .second, .val (.long v13), .second, .val (.long (f2 v13 v11)), .second, .unset, .unset] []))
  refine Go.step (fun t k => XS.lloadN X14.here hx rfl (hb hby at_57) rfl k) ?_
  show Go p e below _ (T14.setTop (mkF m 58 #[.val (.long q1), .second, .val (.long q2), .second, .val (.int p3), .val (.long q4), .second, .val (.int p5), .val (.int v6), .val (.long v11), .second, .val (.long v13), .second, .val (.long (f2 v13 v11)), .second, .unset, .unset] [(.long q1)]))
  refine Go.step (fun t k => XS.lloadN X14.here hx rfl (hb hby at_58) rfl k) ?_
  show Go p e below _ (T14.setTop (mkF m 59 #[.val (.long q1), .second, .val (.long q2), .second, .val (.int p3), .val (.long q4), .second, .val (.int p5), .val (.int v6), .val (.long v11), .second, .val (.long v13), .second, .val (.long (f2 v13 v11)), .second, .unset, .unset] [(.long q2), (.long q1)]))
  refine Go.step (fun t k => XS.iload X14.here hx rfl (hb hby at_59) rfl k) ?_
  show Go p e below _ (T14.setTop (mkF m 61 #[.val (.long q1), .second, .val (.long q2), .second, .val (.int p3), .val (.long q4), .second, .val (.int p5), .val (.int v6), .val (.long v11), .second, .val (.long v13), .second, .val (.long (f2 v13 v11)), .second, .unset, .unset] [(.int v6), (.long q2), (.long q1)]))
  refine Go.step (fun t k => XS.lload X14.here hx rfl (hb hby at_61) rfl k) ?_
  show Go p e below _ (T14.setTop (mkF m 63 #[.val (.long q1), .second, .val (.long q2), .second, .val (.int p3), .val (.long q4), .second, .val (.int p5), .val (.int v6), .val (.long v11), .second, .val (.long v13), .second, .val (.long (f2 v13 v11)), .second, .unset, .unset] [(.long v11), (.int v6), (.long q2), (.long q1)]))
  obtain ⟨_, _, ⟨T15, L15, k15, n15⟩, -, X15, ⟨Lc15, hQ15, l15, y15, z15⟩, st15⟩ := Jvm.LawKit.callS X14 hx (y := (⟨"com/example/arnero/arnero/HashScheme", "place", "(JJIJ)J"⟩ : MethodName)) hown (mvT hZ (hw _ (List.mem_of_getElem? (i := 11) rfl))) (mvT hZ (hw _ (List.mem_of_getElem? (i := 12) rfl))) (mvT hZ (hw _ (List.mem_of_getElem? (i := 13) rfl))) (mvT hZ (hw _ (List.mem_of_getElem? (i := 14) rfl))) (by decide) (backOf (W := 0) (rm3 l Z a0 hw [] q1 q2 v6 v11 h0 n0 Z0) hZ (hw _ (List.mem_of_getElem? (i := 14) rfl)) (hw _ (List.mem_of_getElem? (i := 13) rfl)) (by decide) (by decide)) (g := (mkF m 63 #[.val (.long q1), .second, .val (.long q2), .second, .val (.int p3), .val (.long q4), .second, .val (.int p5), .val (.int v6), .val (.long v11), .second, .val (.long v13), .second, .val (.long (f2 v13 v11)), .second, .unset, .unset] [(.long v11), (.int v6), (.long q2), (.long q1)])) rfl (by rw [hml]; rfl) (argsL := [(.long q1), (.long q2), (.int v6), (.long v11)]) (rest := []) (lenOf pd_1 rfl) rfl (by show 2 * 0 + _ ≤ _; exact Nat.le_of_eq rfl) (hb hby at_63) (fun _ _ => ⟨rfl, e14, (by decide : 0 + 0 ≤ _), (by decide : 0 + 0 ≤ _)⟩)
  dsimp only [Pt.U, Pt.locs, Pt.cells, Pt.slots] at X15 l15 y15 z15 st15 hQ15
  subst l15 y15 z15
  obtain ⟨rfl, N15q, e15⟩ := hQ15
  have N15 := Fr.app N14 N15q
  refine Go.step st15 ?_
  show Go p e below _ (T15.setTop (mkF m 66 #[.val (.long q1), .second, .val (.long q2), .second, .val (.int p3), .val (.long q4), .second, .val (.int p5), .val (.int v6), .val (.long v11), .second, .val (.long v13), .second, .val (.long (f2 v13 v11)), .second, .unset, .unset] [(.long (f3 q1 q2 v6 v11))]))
  obtain ⟨v16, hv16⟩ : ∃ z : Int64, z = (f3 q1 q2 v6 v11) := ⟨_, rfl⟩
  rw [← hv16]
  show Go p e below _ (T15.setTop (mkF m 66 #[.val (.long q1), .second, .val (.long q2), .second, .val (.int p3), .val (.long q4), .second, .val (.int p5), .val (.int v6), .val (.long v11), .second, .val (.long v13), .second, .val (.long (f2 v13 v11)), .second, .unset, .unset] [(.long v16)]))
  refine Go.step (fun t k => XS.lstore X15.here hx rfl (hb hby at_66) rfl (l' := #[.val (.long q1), .second, .val (.long q2), .second, .val (.int p3), .val (.long q4), .second, .val (.int p5), .val (.int v6), .val (.long v11), .second, .val (.long v13), .second, .val (.long (f2 v13 v11)), .second, .val (.long v16), .second]) rfl k) ?_
  show Go p e below _ (T15.setTop (mkF m 68 #[.val (.long q1), .second, .val (.long q2), .second, .val (.int p3), .val (.long q4), .second, .val (.int p5), .val (.int v6), .val (.long v11), .second, .val (.long v13), .second, .val (.long (f2 v13 v11)), .second, .val (.long v16), .second] []))
  refine Go.step (fun t k => XS.lload X15.here hx rfl (hb hby at_68) rfl k) ?_
  show Go p e below _ (T15.setTop (mkF m 70 #[.val (.long q1), .second, .val (.long q2), .second, .val (.int p3), .val (.long q4), .second, .val (.int p5), .val (.int v6), .val (.long v11), .second, .val (.long v13), .second, .val (.long (f2 v13 v11)), .second, .val (.long v16), .second] [(.long v16)]))
  refine Go.step (fun t k => XS.lload X15.here hx rfl (hb hby at_70) rfl k) ?_
  show Go p e below _ (T15.setTop (mkF m 72 #[.val (.long q1), .second, .val (.long q2), .second, .val (.int p3), .val (.long q4), .second, .val (.int p5), .val (.int v6), .val (.long v11), .second, .val (.long v13), .second, .val (.long (f2 v13 v11)), .second, .val (.long v16), .second] [(.long (f2 v13 v11)), (.long v16)]))
  refine Go.step (fun t k => XS.lcmp X15.here hx rfl (hb hby at_72) rfl k) ?_
  show Go p e below _ (T15.setTop (mkF m 73 #[.val (.long q1), .second, .val (.long q2), .second, .val (.int p3), .val (.long q4), .second, .val (.int p5), .val (.int v6), .val (.long v11), .second, .val (.long v13), .second, .val (.long (f2 v13 v11)), .second, .val (.long v16), .second] [(.int (lcmpW v16 (f2 v13 v11)))]))
  by_cases hc17 : v16 = (f2 v13 v11)
  · refine Go.step (fun t k => XS.ifNo X15.here hx rfl (hb hby at_73) rfl ((if0 _ _).trans (teq ((lw_eq _ _).mpr hc17)).2) k) ?_
    show Go p e below _ (T15.setTop (mkF m 76 #[.val (.long q1), .second, .val (.long q2), .second, .val (.int p3), .val (.long q4), .second, .val (.int p5), .val (.int v6), .val (.long v11), .second, .val (.long v13), .second, .val (.long (f2 v13 v11)), .second, .val (.long v16), .second] []))
    refine Go.step (fun t k => XS.lload X15.here hx rfl (hb hby at_76) rfl k) ?_
    show Go p e below _ (T15.setTop (mkF m 78 #[.val (.long q1), .second, .val (.long q2), .second, .val (.int p3), .val (.long q4), .second, .val (.int p5), .val (.int v6), .val (.long v11), .second, .val (.long v13), .second, .val (.long (f2 v13 v11)), .second, .val (.long v16), .second] [(.long v16)]))
    refine Go.step (fun t k => XS.lconst X15.here hx rfl (hb hby at_78)  k) ?_
    show Go p e below _ (T15.setTop (mkF m 79 #[.val (.long q1), .second, .val (.long q2), .second, .val (.int p3), .val (.long q4), .second, .val (.int p5), .val (.int v6), .val (.long v11), .second, .val (.long v13), .second, .val (.long (f2 v13 v11)), .second, .val (.long v16), .second] [(.long (0 : Int64)), (.long v16)]))
    refine Go.step (fun t k => XS.lcmp X15.here hx rfl (hb hby at_79) rfl k) ?_
    show Go p e below _ (T15.setTop (mkF m 80 #[.val (.long q1), .second, .val (.long q2), .second, .val (.int p3), .val (.long q4), .second, .val (.int p5), .val (.int v6), .val (.long v11), .second, .val (.long v13), .second, .val (.long (f2 v13 v11)), .second, .val (.long v16), .second] [(.int (lcmpW v16 (0 : Int64)))]))
    by_cases hc18 : v16 < (0 : Int64)
    · refine Go.step (fun t k => XS.ifYes X15.here hx rfl (pc0 := 80) (pc' := 95) rfl (hb hby at_80) rfl ((if0 _ _).trans (tlt ((lw_lt _ _).mpr hc18)).1) (by decide) (by decide) k) ?_
      show Go p e below _ (T15.setTop (mkF m 95 #[.val (.long q1), .second, .val (.long q2), .second, .val (.int p3), .val (.long q4), .second, .val (.int p5), .val (.int v6), .val (.long v11), .second, .val (.long v13), .second, .val (.long (f2 v13 v11)), .second, .val (.long v16), .second] []))
      refine Go.step (fun t k => XS.iconst X15.here hx rfl (hb hby at_95)  k) ?_
      show Go p e below _ (T15.setTop (mkF m 96 #[.val (.long q1), .second, .val (.long q2), .second, .val (.int p3), .val (.long q4), .second, .val (.int p5), .val (.int v6), .val (.long v11), .second, .val (.long v13), .second, .val (.long (f2 v13 v11)), .second, .val (.long v16), .second] [(.int (0 : Int32))]))
      subst hv16
      subst hv13
      subst hv11
      subst hv6
      exact retGN X15 hx Bd.notSynchronized Bd.returns (t := .boolean) (by simp) (z' := (0 : Int32)) rfl (hb hby at_96) ⟨by first | (simp only [f0, if_pos hc17, if_pos hc18]; done) | rfl | (simp [f0, if_pos hc17, if_pos hc18]; done), N15, e15⟩ (by decide) (by decide)
    · refine Go.step (fun t k => XS.ifNo X15.here hx rfl (hb hby at_80) rfl ((if0 _ _).trans (flt (fun q => hc18 ((lw_lt _ _).mp q))).1) k) ?_
      show Go p e below _ (T15.setTop (mkF m 83 #[.val (.long q1), .second, .val (.long q2), .second, .val (.int p3), .val (.long q4), .second, .val (.int p5), .val (.int v6), .val (.long v11), .second, .val (.long v13), .second, .val (.long (f2 v13 v11)), .second, .val (.long v16), .second] []))
      refine Go.step (fun t k => XS.lload X15.here hx rfl (hb hby at_83) rfl k) ?_
      show Go p e below _ (T15.setTop (mkF m 85 #[.val (.long q1), .second, .val (.long q2), .second, .val (.int p3), .val (.long q4), .second, .val (.int p5), .val (.int v6), .val (.long v11), .second, .val (.long v13), .second, .val (.long (f2 v13 v11)), .second, .val (.long v16), .second] [(.long v16)]))
      refine Go.step (fun t k => XS.lload X15.here hx rfl (hb hby at_85) rfl k) ?_
      show Go p e below _ (T15.setTop (mkF m 87 #[.val (.long q1), .second, .val (.long q2), .second, .val (.int p3), .val (.long q4), .second, .val (.int p5), .val (.int v6), .val (.long v11), .second, .val (.long v13), .second, .val (.long (f2 v13 v11)), .second, .val (.long v16), .second] [(.long v11), (.long v16)]))
      refine Go.step (fun t k => XS.lcmp X15.here hx rfl (hb hby at_87) rfl k) ?_
      show Go p e below _ (T15.setTop (mkF m 88 #[.val (.long q1), .second, .val (.long q2), .second, .val (.int p3), .val (.long q4), .second, .val (.int p5), .val (.int v6), .val (.long v11), .second, .val (.long v13), .second, .val (.long (f2 v13 v11)), .second, .val (.long v16), .second] [(.int (lcmpW v16 v11))]))
      by_cases hc19 : v16 < v11
      · refine Go.step (fun t k => XS.ifNo X15.here hx rfl (hb hby at_88) rfl ((if0 _ _).trans (tlt ((lw_lt _ _).mpr hc19)).2.1) k) ?_
        show Go p e below _ (T15.setTop (mkF m 91 #[.val (.long q1), .second, .val (.long q2), .second, .val (.int p3), .val (.long q4), .second, .val (.int p5), .val (.int v6), .val (.long v11), .second, .val (.long v13), .second, .val (.long (f2 v13 v11)), .second, .val (.long v16), .second] []))
        refine Go.step (fun t k => XS.iconst X15.here hx rfl (hb hby at_91)  k) ?_
        show Go p e below _ (T15.setTop (mkF m 92 #[.val (.long q1), .second, .val (.long q2), .second, .val (.int p3), .val (.long q4), .second, .val (.int p5), .val (.int v6), .val (.long v11), .second, .val (.long v13), .second, .val (.long (f2 v13 v11)), .second, .val (.long v16), .second] [(.int (1 : Int32))]))
        refine Go.step (fun t k => XS.goto X15.here hx rfl (pc0 := 92) (pc' := 96) rfl (hb hby at_92) (by decide) (by decide) k) ?_
        show Go p e below _ (T15.setTop (mkF m 96 #[.val (.long q1), .second, .val (.long q2), .second, .val (.int p3), .val (.long q4), .second, .val (.int p5), .val (.int v6), .val (.long v11), .second, .val (.long v13), .second, .val (.long (f2 v13 v11)), .second, .val (.long v16), .second] [(.int (1 : Int32))]))
        subst hv16
        subst hv13
        subst hv11
        subst hv6
        exact retGN X15 hx Bd.notSynchronized Bd.returns (t := .boolean) (by simp) (z' := (1 : Int32)) rfl (hb hby at_96) ⟨by first | (simp only [f0, if_pos hc17, if_neg hc18, if_pos hc19]; done) | rfl | (simp [f0, if_pos hc17, if_neg hc18, if_pos hc19]; done), N15, e15⟩ (by decide) (by decide)
      · refine Go.step (fun t k => XS.ifYes X15.here hx rfl (pc0 := 88) (pc' := 95) rfl (hb hby at_88) rfl ((if0 _ _).trans (flt (fun q => hc19 ((lw_lt _ _).mp q))).2.1) (by decide) (by decide) k) ?_
        show Go p e below _ (T15.setTop (mkF m 95 #[.val (.long q1), .second, .val (.long q2), .second, .val (.int p3), .val (.long q4), .second, .val (.int p5), .val (.int v6), .val (.long v11), .second, .val (.long v13), .second, .val (.long (f2 v13 v11)), .second, .val (.long v16), .second] []))
        refine Go.step (fun t k => XS.iconst X15.here hx rfl (hb hby at_95)  k) ?_
        show Go p e below _ (T15.setTop (mkF m 96 #[.val (.long q1), .second, .val (.long q2), .second, .val (.int p3), .val (.long q4), .second, .val (.int p5), .val (.int v6), .val (.long v11), .second, .val (.long v13), .second, .val (.long (f2 v13 v11)), .second, .val (.long v16), .second] [(.int (0 : Int32))]))
        subst hv16
        subst hv13
        subst hv11
        subst hv6
        exact retGN X15 hx Bd.notSynchronized Bd.returns (t := .boolean) (by simp) (z' := (0 : Int32)) rfl (hb hby at_96) ⟨by first | (simp only [f0, if_pos hc17, if_neg hc18, if_neg hc19]; done) | rfl | (simp [f0, if_pos hc17, if_neg hc18, if_neg hc19]; done), N15, e15⟩ (by decide) (by decide)
  · refine Go.step (fun t k => XS.ifYes X15.here hx rfl (pc0 := 73) (pc' := 95) rfl (hb hby at_73) rfl ((if0 _ _).trans (feq (fun q => hc17 ((lw_eq _ _).mp q))).2) (by decide) (by decide) k) ?_
    show Go p e below _ (T15.setTop (mkF m 95 #[.val (.long q1), .second, .val (.long q2), .second, .val (.int p3), .val (.long q4), .second, .val (.int p5), .val (.int v6), .val (.long v11), .second, .val (.long v13), .second, .val (.long (f2 v13 v11)), .second, .val (.long v16), .second] []))
    refine Go.step (fun t k => XS.iconst X15.here hx rfl (hb hby at_95)  k) ?_
    show Go p e below _ (T15.setTop (mkF m 96 #[.val (.long q1), .second, .val (.long q2), .second, .val (.int p3), .val (.long q4), .second, .val (.int p5), .val (.int v6), .val (.long v11), .second, .val (.long v13), .second, .val (.long (f2 v13 v11)), .second, .val (.long v16), .second] [(.int (0 : Int32))]))
    subst hv16
    subst hv13
    subst hv11
    subst hv6
    exact retGN X15 hx Bd.notSynchronized Bd.returns (t := .boolean) (by simp) (z' := (0 : Int32)) rfl (hb hby at_96) ⟨by first | (simp only [f0, if_neg hc17]; done) | rfl | (simp [f0, if_neg hc17]; done), N15, e15⟩ (by decide) (by decide)

/-- the high word, out of the halves -/
theorem own_high (x1 x0 y1 y0 : Int) : (x1 * 4294967296 + x0) * (y1 * 4294967296 + y0) = x1 * y1 * 18446744073709551616 + (x1 * y0 + x0 * y1) * 4294967296 + x0 * y0 := by
  have e1 : (x1 * 4294967296 + x0) * (y1 * 4294967296 + y0) = x1 * 4294967296 * (y1 * 4294967296) + x1 * 4294967296 * y0 + (x0 * (y1 * 4294967296) + x0 * y0) := by rw [Int.add_mul, Int.mul_add, Int.mul_add]
  have e2 : x1 * 4294967296 * (y1 * 4294967296) = x1 * y1 * 18446744073709551616 := by rw [Int.mul_assoc, Int.mul_left_comm 4294967296 y1, ← Int.mul_assoc]; rfl
  have e3 : x1 * 4294967296 * y0 = x1 * y0 * 4294967296 := by rw [Int.mul_right_comm]
  have e4 : x0 * (y1 * 4294967296) = x0 * y1 * 4294967296 := by rw [Int.mul_assoc]
  rw [e1, e2, e3, e4]; omega
theorem own_mask (x : Int64) : (x &&& (4294967295 : Int64)).toInt = x.toInt % 4294967296 := c_maskL x 4294967295 32 (by decide) (by decide)
theorem own_bd {a b l1 h1 l2 h2 L H : Int} (p1 : l1 ≤ a) (p2 : a ≤ h1) (q1 : l2 ≤ b) (q2 : b ≤ h2) (hl2 : 0 ≤ l2) (hl1 : l1 ≤ 0) (hh1 : 0 ≤ h1) (hL : L = l1 * h2) (hH : H = h1 * h2) : L ≤ a * b ∧ a * b ≤ H := by
  subst hL hH
  constructor
  · have e1 : l1 * b ≤ a * b := Int.mul_le_mul_of_nonneg_right p1 (by omega)
    have e2 : l1 * h2 ≤ l1 * b := Int.mul_le_mul_of_nonpos_left hl1 q2
    omega
  · have e1 : a * b ≤ h1 * b := Int.mul_le_mul_of_nonneg_right p2 (by omega)
    have e2 : h1 * b ≤ h1 * h2 := Int.mul_le_mul_of_nonneg_left q2 hh1
    omega
theorem own_sq {a b : Int} (p1 : -2147483648 ≤ a) (p2 : a ≤ 2147483647) (q1 : -2147483648 ≤ b) (q2 : b ≤ 2147483647) : -4611686018427387904 ≤ a * b ∧ a * b ≤ 4611686018427387904 := by
  have := mc p1 p2 q1 q2
  generalize a * b = w at *
  omega
theorem own_mh1 (z10 w z01 z11 : Int64) (A B Cc D : Int) (hA : -4611686018427387904 ≤ A ∧ A ≤ 4611686018427387904) (hB : -9223372034707292160 ≤ B ∧ B ≤ 9223372030412324865) (hC : -9223372034707292160 ≤ Cc ∧ Cc ≤ 9223372030412324865) (hD : 0 ≤ D ∧ D ≤ 18446744065119617025)
    (e10 : z10.toInt = B) (ew : w.toInt = D / 4294967296) (e01 : z01.toInt = Cc) (e11 : z11.toInt = A) :
    ((z11 + ((z10 + w) >>> ((32 : Int32) &&& 0x3f).toInt64)) + ((((z10 + w) &&& (4294967295 : Int64)) + z01) >>> ((32 : Int32) &&& 0x3f).toInt64)).toInt = (A * 18446744073709551616 + (B + Cc) * 4294967296 + D) / 18446744073709551616 := by
  have v2 : (z10 + w).toInt = B + D / 4294967296 := by rw [addL] <;> omega
  generalize z10 + w = t at *
  clear e10 ew
  have v3 := own_mask t
  have v4 := c_lshr t 32 32 (by decide)
  rw [show ((2 ^ 32 : Nat) : Int) = 4294967296 by decide] at v4
  generalize t &&& (4294967295 : Int64) = t0 at *
  generalize t >>> ((32 : Int32) &&& 0x3f).toInt64 = t1 at *
  rw [v2] at v3 v4
  clear v2
  have v5 : (t0 + z01).toInt = (B + D / 4294967296) % 4294967296 + Cc := by rw [addL] <;> omega
  generalize t0 + z01 = q at *
  have v6 := c_lshr q 32 32 (by decide)
  rw [show ((2 ^ 32 : Nat) : Int) = 4294967296 by decide, v5] at v6
  generalize q >>> ((32 : Int32) &&& 0x3f).toInt64 = q1 at *
  clear v5 v3 e01
  have v7 : (z11 + t1).toInt = A + (B + D / 4294967296) / 4294967296 := by rw [addL] <;> omega
  generalize z11 + t1 = s at *
  clear v4 e11
  have v8 : (s + q1).toInt = A + (B + D / 4294967296) / 4294967296 + ((B + D / 4294967296) % 4294967296 + Cc) / 4294967296 := by rw [addL] <;> omega
  rw [v8]
  clear v8 v6 v7
  omega
theorem own_mh (x y : Int64) : (f4 x y).toInt = x.toInt * y.toInt / 18446744073709551616 := by
  have rx := rng64 x
  have ry := rng64 y
  have a1 := c_lshr x 32 32 (by decide)
  have a2 := own_mask x
  have b1 := c_lshr y 32 32 (by decide)
  have b2 := own_mask y
  have hx : x.toInt = (x.toInt / 4294967296) * 4294967296 + x.toInt % 4294967296 := by omega
  have hy : y.toInt = (y.toInt / 4294967296) * 4294967296 + y.toInt % 4294967296 := by omega
  have hh := own_high (x.toInt / 4294967296) (x.toInt % 4294967296) (y.toInt / 4294967296) (y.toInt % 4294967296)
  rw [← hx, ← hy] at hh
  rw [hh]
  have x1b : -2147483648 ≤ x.toInt / 4294967296 ∧ x.toInt / 4294967296 ≤ 2147483647 := by omega
  have y1b : -2147483648 ≤ y.toInt / 4294967296 ∧ y.toInt / 4294967296 ≤ 2147483647 := by omega
  have x0b : 0 ≤ x.toInt % 4294967296 ∧ x.toInt % 4294967296 ≤ 4294967295 := by omega
  have y0b : 0 ≤ y.toInt % 4294967296 ∧ y.toInt % 4294967296 ≤ 4294967295 := by omega
  clear hh hx hy rx ry
  unfold f4
  rw [show ((2 ^ 32 : Nat) : Int) = 4294967296 by decide] at a1 b1
  generalize x.toInt / 4294967296 = X1 at *
  generalize x.toInt % 4294967296 = X0 at *
  generalize y.toInt / 4294967296 = Y1 at *
  generalize y.toInt % 4294967296 = Y0 at *
  generalize x >>> ((32 : Int32) &&& 0x3f).toInt64 = x1 at *
  generalize x &&& (4294967295 : Int64) = x0 at *
  generalize y >>> ((32 : Int32) &&& 0x3f).toInt64 = y1 at *
  generalize y &&& (4294967295 : Int64) = y0 at *
  have p11 := own_sq x1b.1 x1b.2 y1b.1 y1b.2
  have p10 := own_bd (L := -9223372034707292160) (H := 9223372030412324865) x1b.1 x1b.2 y0b.1 y0b.2 (by decide) (by decide) (by decide) (by decide) (by decide)
  have p01 := own_bd (L := -9223372034707292160) (H := 9223372030412324865) y1b.1 y1b.2 x0b.1 x0b.2 (by decide) (by decide) (by decide) (by decide) (by decide)
  have p00 := own_bd (L := 0) (H := 18446744065119617025) x0b.1 x0b.2 y0b.1 y0b.2 (by decide) (by decide) (by decide) (by decide) (by decide)
  rw [Int.mul_comm Y1 X0] at p01
  have k00 := c_lmul x0 y0
  have k10 := c_lmul x1 y0
  have k01 := c_lmul x0 y1
  have k11 := c_lmul x1 y1
  rw [a2, b2] at k00
  rw [a1, b2] at k10
  rw [a2, b1] at k01
  rw [a1, b1] at k11
  clear x1b y1b x0b y0b a1 a2 b1 b2
  generalize X1 * Y1 = A at *
  generalize X1 * Y0 = B at *
  generalize X0 * Y1 = Cc at *
  generalize X0 * Y0 = D at *
  have u1 := c_lushr (x0 * y0) 32 32 (by decide) (by decide)
  have r10 := rng64 (x1 * y0)
  have r01 := rng64 (x0 * y1)
  have r11 := rng64 (x1 * y1)
  rw [show ((2 ^ 32 : Nat) : Int) = 4294967296 by decide] at u1
  apply own_mh1 _ _ _ _ A B Cc D p11 p10 p01 p00
  · clear k00 k01 k11 u1 r01 r11; omega
  · rw [u1]; clear k10 k01 k11 r10 r01 r11; omega
  · clear k00 k10 k11 u1 r10 r11; omega
  · clear k00 k10 k01 u1 r10 r01; omega
theorem own_uh1 (w00 w10 w01 z11 l10 l01 : Int64) (A B Cc D : Int) (hA : 0 ≤ A ∧ A ≤ 9223372030412324865) (hB : 0 ≤ B ∧ B ≤ 18446744065119617025) (hC : 0 ≤ Cc ∧ Cc ≤ 9223372030412324865) (hD : 0 ≤ D ∧ D ≤ 18446744065119617025)
    (e00 : w00.toInt = D / 4294967296) (e10 : w10.toInt = B / 4294967296) (e01 : w01.toInt = Cc / 4294967296) (f10 : l10.toInt = B % 4294967296) (f01 : l01.toInt = Cc % 4294967296) (e11 : z11.toInt = A) :
    (((z11 + w10) + w01) + (((((w00 + l10) + l01).toUInt64 >>> ((32 : Int32) &&& 0x3f).toInt64.toUInt64).toInt64))).toInt = (A * 18446744073709551616 + (B + Cc) * 4294967296 + D) / 18446744073709551616 := by
  have v1 : (w00 + l10).toInt = D / 4294967296 + B % 4294967296 := by rw [addL] <;> omega
  have v2 : (w00 + l10 + l01).toInt = D / 4294967296 + B % 4294967296 + Cc % 4294967296 := by rw [addL] <;> omega
  have v3 := c_lushr (w00 + l10 + l01) 32 32 (by decide) (by decide)
  rw [show ((2 ^ 32 : Nat) : Int) = 4294967296 by decide, v2] at v3
  generalize ((w00 + l10 + l01).toUInt64 >>> ((32 : Int32) &&& 0x3f).toInt64.toUInt64).toInt64 = c at *
  clear v1 v2 e00 f10 f01
  have v4 : (z11 + w10).toInt = A + B / 4294967296 := by rw [addL] <;> omega
  have v5 : (z11 + w10 + w01).toInt = A + B / 4294967296 + Cc / 4294967296 := by rw [addL] <;> omega
  clear v4 e10 e01 e11
  have v6 : (z11 + w10 + w01 + c).toInt = A + B / 4294967296 + Cc / 4294967296 + (D / 4294967296 + B % 4294967296 + Cc % 4294967296) / 4294967296 := by rw [addL] <;> omega
  rw [v6]
  clear v3 v5 v6
  omega
theorem own_uh (x y : Int64) (hy0 : 0 < y.toInt) : (f2 x y).toInt = (x.toInt % 18446744073709551616) * y.toInt / 18446744073709551616 := by
  have rx := rng64 x
  have ry := rng64 y
  have a1 := c_lushr x 32 32 (by decide) (by decide)
  have a2 := own_mask x
  have b1 := c_lushr y 32 32 (by decide) (by decide)
  have b2 := own_mask y
  rw [show ((2 ^ 32 : Nat) : Int) = 4294967296 by decide] at a1 b1
  have hx : x.toInt % 18446744073709551616 = (x.toInt % 18446744073709551616 / 4294967296) * 4294967296 + x.toInt % 4294967296 := by omega
  have hy : y.toInt = (y.toInt % 18446744073709551616 / 4294967296) * 4294967296 + y.toInt % 4294967296 := by omega
  have hh := own_high (x.toInt % 18446744073709551616 / 4294967296) (x.toInt % 4294967296) (y.toInt % 18446744073709551616 / 4294967296) (y.toInt % 4294967296)
  rw [← hx, ← hy] at hh
  rw [hh]
  have x1b : 0 ≤ x.toInt % 18446744073709551616 / 4294967296 ∧ x.toInt % 18446744073709551616 / 4294967296 ≤ 4294967295 := by omega
  have y1b : 0 ≤ y.toInt % 18446744073709551616 / 4294967296 ∧ y.toInt % 18446744073709551616 / 4294967296 ≤ 2147483647 := by omega
  have x0b : 0 ≤ x.toInt % 4294967296 ∧ x.toInt % 4294967296 ≤ 4294967295 := by omega
  have y0b : 0 ≤ y.toInt % 4294967296 ∧ y.toInt % 4294967296 ≤ 4294967295 := by omega
  clear hh hx hy rx ry hy0
  unfold f2
  generalize x.toInt % 18446744073709551616 / 4294967296 = X1 at *
  generalize x.toInt % 4294967296 = X0 at *
  generalize y.toInt % 18446744073709551616 / 4294967296 = Y1 at *
  generalize y.toInt % 4294967296 = Y0 at *
  generalize (x.toUInt64 >>> ((32 : Int32) &&& 0x3f).toInt64.toUInt64).toInt64 = x1 at *
  generalize x &&& (4294967295 : Int64) = x0 at *
  generalize (y.toUInt64 >>> ((32 : Int32) &&& 0x3f).toInt64.toUInt64).toInt64 = y1 at *
  generalize y &&& (4294967295 : Int64) = y0 at *
  have p11 := own_bd (L := 0) (H := 9223372030412324865) x1b.1 x1b.2 y1b.1 y1b.2 (by decide) (by decide) (by decide) (by decide) (by decide)
  have p10 := own_bd (L := 0) (H := 18446744065119617025) x1b.1 x1b.2 y0b.1 y0b.2 (by decide) (by decide) (by decide) (by decide) (by decide)
  have p01 := own_bd (L := 0) (H := 9223372030412324865) x0b.1 x0b.2 y1b.1 y1b.2 (by decide) (by decide) (by decide) (by decide) (by decide)
  have p00 := own_bd (L := 0) (H := 18446744065119617025) x0b.1 x0b.2 y0b.1 y0b.2 (by decide) (by decide) (by decide) (by decide) (by decide)
  have k00 := c_lmul x0 y0
  have k10 := c_lmul x1 y0
  have k01 := c_lmul x0 y1
  have k11 := c_lmul x1 y1
  rw [a2, b2] at k00
  rw [a1, b2] at k10
  rw [a2, b1] at k01
  rw [a1, b1] at k11
  clear x1b y1b x0b y0b a1 a2 b1 b2
  generalize X1 * Y1 = A at *
  generalize X1 * Y0 = B at *
  generalize X0 * Y1 = Cc at *
  generalize X0 * Y0 = D at *
  have u00 := c_lushr (x0 * y0) 32 32 (by decide) (by decide)
  have u10 := c_lushr (x1 * y0) 32 32 (by decide) (by decide)
  have u01 := c_lushr (x0 * y1) 32 32 (by decide) (by decide)
  have m10 := own_mask (x1 * y0)
  have m01 := own_mask (x0 * y1)
  have r11 := rng64 (x1 * y1)
  rw [show ((2 ^ 32 : Nat) : Int) = 4294967296 by decide] at u00 u10 u01
  apply own_uh1 _ _ _ _ _ _ A B Cc D p11 p10 p01 p00
  · rw [u00]; clear k10 k01 k11 u00 u10 u01 m10 m01 r11; omega
  · rw [u10]; clear k00 k01 k11 u00 u10 u01 m10 m01 r11; omega
  · rw [u01]; clear k00 k10 k11 u00 u10 u01 m10 m01 r11; omega
  · rw [m10]; clear k00 k01 k11 u00 u10 u01 m10 m01 r11; omega
  · rw [m01]; clear k00 k10 k11 u00 u10 u01 m10 m01 r11; omega
  · clear k00 k10 k01 u00 u10 u01 m10 m01; omega
theorem own_m (b : Int64) (q : Int32) : 0 < (if (q &&& (1 : Int32)) = (0 : Int32) then (f1 (1 : Int64) (b &&& (9223372036854775807 : Int64))) else ((b &&& (65535 : Int64)) + (1 : Int64))).toInt := by
  have e1 : (1 : Int64).toInt = 1 := by decide
  split
  · unfold f1; split
    · rename_i h; rw [Int64.lt_iff_toInt_lt, e1] at h; omega
    · rw [e1]; omega
  · have h := c_maskL b 65535 16 (by decide) (by decide)
    rw [show ((2 ^ 16 : Nat) : Int) = 65536 by decide] at h
    rw [addL] <;> rw [e1] <;> omega
theorem own_place (h s : Int64) (i : Int32) (m : Int64) (hm : 0 < m.toInt) : f3 h s i m = f2 (h + i.toInt64 * s) m := by
  apply Int64.toInt_inj.mp
  unfold f3
  generalize h + i.toInt64 * s = p
  rw [own_uh p m hm]
  have k := own_mh p m
  have rm := rng64 m
  have rp := rng64 p
  have sh := c_lshr p 63 63 (by decide)
  have k2 := rng64 (f4 p m)
  by_cases hneg : p.toInt < 0
  · have e1 : p >>> ((63 : Int32) &&& 0x3f).toInt64 = -1 := by
      apply Int64.toInt_inj.mp
      rw [sh, show (-1 : Int64).toInt = -1 by decide, show ((2 ^ 63 : Nat) : Int) = 9223372036854775808 by decide]; omega
    rw [e1, Int64.neg_one_and]
    have e2 : p.toInt % 18446744073709551616 = p.toInt + 18446744073709551616 := by omega
    have e3 : p.toInt % 18446744073709551616 * m.toInt = p.toInt * m.toInt + m.toInt * 18446744073709551616 := by rw [e2, Int.add_mul, Int.mul_comm 18446744073709551616]
    rw [e3]
    have e4 : p.toInt * m.toInt ≤ 0 := Int.mul_nonpos_of_nonpos_of_nonneg (by omega) (by omega)
    have e5 : -9223372036854775808 * m.toInt ≤ p.toInt * m.toInt := Int.mul_le_mul_of_nonneg_right (by omega) (by omega)
    generalize p.toInt * m.toInt = w at *
    rw [addL] <;> omega
  · have e1 : p >>> ((63 : Int32) &&& 0x3f).toInt64 = 0 := by
      apply Int64.toInt_inj.mp
      rw [sh, show (0 : Int64).toInt = 0 by decide, show ((2 ^ 63 : Nat) : Int) = 9223372036854775808 by decide]; omega
    have e2 : p.toInt % 18446744073709551616 = p.toInt := by omega
    rw [e1, Int64.zero_and, Int64.add_zero, k, e2]
theorem law_true (h s : Int64) (i : Int32) (b : Int64) (q : Int32) : f0 h s i b q = 1 := by
  have hm := own_m b q
  simp only [f0]
  generalize (if (q &&& (1 : Int32)) = (0 : Int32) then (f1 (1 : Int64) (b &&& (9223372036854775807 : Int64))) else ((b &&& (65535 : Int64)) + (1 : Int64))) = m at *
  generalize i &&& (2147483647 : Int32) = k
  rw [own_place h s k m hm]
  have u := own_uh (h + k.toInt64 * s) m hm
  generalize h + k.toInt64 * s = p at *
  have e0 : (0 : Int64).toInt = 0 := by decide
  have b1 : 0 ≤ p.toInt % 18446744073709551616 ∧ p.toInt % 18446744073709551616 ≤ 18446744073709551615 := by omega
  have b2 : 0 ≤ p.toInt % 18446744073709551616 * m.toInt := Int.mul_nonneg b1.1 (by omega)
  have b3 : p.toInt % 18446744073709551616 * m.toInt ≤ 18446744073709551615 * m.toInt := Int.mul_le_mul_of_nonneg_right b1.2 (by omega)
  rw [if_pos rfl, if_neg, if_pos]
  · rw [Int64.lt_iff_toInt_lt, u]; omega
  · rw [Int64.lt_iff_toInt_lt, u, e0]; omega

set_option maxRecDepth 65536 in
set_option maxHeartbeats 40000000 in
theorem comes_1 {Post : Tables → Env → Array Value → State → Outcome → State → Prop} (hpost : ∀ tb e args s v u, (limb_1_1.after args s (.returned v) u = true ∧ limb_1_2.after args s (.returned v) u = true ∧ True) → FrameEnd s (.returned v) u (Jvm.fieldLocs frame_1_writes args s ++ Jvm.arrayLocs frame_1_arrays args s ++ Jvm.staticLocs frame_1_statics s) 0 0 → Post tb e args s (.returned v) u) :
    ArmFor flags0 classFile x code maxLocals ret World_1 tables_1 room_1 Calls_1 rest_1 Pre_1 Post := by
  intro l hfl _ _ p e ha hc hk s m args below hf hA hF happ hP
  obtain ⟨hcalls, hrest, hpre⟩ := hP
  obtain ⟨-, -, -, hnamed, -, -, -, hat⟩ := (Spec.applies_iff hf).mp happ
  obtain ⟨hg, hn⟩ := and_e (Cond.before_iff.mp (show (Jvm.Cond.and given_1 narrow_1).before args s = true from hpre))
  obtain ⟨g0, hg⟩ := and_e hg
  obtain ⟨ga0, hg⟩ := and_e hg
  obtain ⟨ga1, hg⟩ := and_e hg
  obtain ⟨ga2, hg⟩ := and_e hg
  obtain ⟨ga3, hg⟩ := and_e hg
  have ga4 := hg
  obtain ⟨w0, w1, w2, w3, w4, rfl⟩ : ∃ w0 w1 w2 w3 w4 : Value, args = #[w0, w1, w2, w3, w4] := by
    have hs : args.size = 5 := by simpa [Cond.value, given_1] using g0
    obtain ⟨L⟩ := args
    match L, hs with
    | [w0, w1, w2, w3, w4], _ => exact ⟨w0, w1, w2, w3, w4, rfl⟩
  have hw := fun d (hd : d ∈ tables_1) => atoms_spec (ws := Jvm.Cond.code x code maxLocals ret :: tables_1) hat d (List.mem_cons_of_mem _ hd)
  have hfit : Fit s := fun {y c} hc i hi => by
    obtain ⟨ha, rfl⟩ := Array.getElem?_eq_some_iff.mp hc
    have q := List.all_eq_true.mp ((Array.all_eq_true_iff_forall_mem.mp hF) _ (Array.getElem_mem ha)) i (List.mem_range.mpr hi)
    simpa [Array.getElem?_eq_getElem hi] using q
  obtain ⟨i0, ei0⟩ := isL_v ga0
  obtain rfl : w0 = (.long i0) := Option.some.inj ei0
  obtain ⟨i1, ei1⟩ := isL_v ga1
  obtain rfl : w1 = (.long i1) := Option.some.inj ei1
  obtain ⟨i2, ei2⟩ := is_v ga2
  obtain rfl : w2 = (.int i2) := Option.some.inj ei2
  obtain ⟨i3, ei3⟩ := isL_v ga3
  obtain rfl : w3 = (.long i3) := Option.some.inj ei3
  obtain ⟨i4, ei4⟩ := is_v ga4
  obtain rfl : w4 = (.int i4) := Option.some.inj ei4
  obtain ⟨n, o, h1, h2, h3, v, L, rfl, hQ, hq⟩ := rm0 l s _ hw tables_1 i0 i1 i2 i3 i4  s.heap s.heap.size (Nat.le_refl _)  p e ha hc hk s m _ below hf ((Spec.applies_iff_loose hf).mp happ).1 ⟨rfl, State.Warmed39.refl s, rfl⟩ trivial
  obtain ⟨hv, N, -⟩ := hQ
  rw [law_true i0 i1 i2 i3 i4] at hv
  subst hv
  refine ⟨n, _, h1, h2, h3, hpost _ _ _ _ _ _ ⟨Cond.after_iff.mpr rfl, Cond.after_iff.mpr (eq_i res_at (Term.int_eval (1)) rfl), trivial⟩ ⟨hq.1, hq.2.1, (hq.2.2.sift fun y hy => Or.inr (N y hy)).mono (by decide) (by decide)⟩⟩
theorem main_1_1 : Claimed_1_1 := comes_1 fun _ _ _ _ _ _ h hF => ⟨h.1, hF⟩
theorem main_1_2 : Claimed_1_2 := comes_1 fun _ _ _ _ _ _ h hF => ⟨h.2.1, hF⟩
end Jvm.Pilot.@@N@@
namespace Jvm.Pilot.@@N@@
open Jvm Jvm.ClassFile Sem Op Lib Jvm.Free Jvm.Stand Jvm.Pilot.@@N@@.Jvm.D
/-! MADE BY PROGRAM (witnessworld.py) out of the Statement's table words and the real class files: 10 classes; the members and pool entries that the words name. The judged class is class 1, her method 2. -/
namespace start1
open Jvm.ClassFile
def u (s : String) : CpInfo := .utf8 (stringToUtf16 s)
/-- a pool by its gaps: so many unusable entries, then the entry; so many at the end -/
def gap : Nat → List CpInfo → List CpInfo
  | 0, r => r
  | n + 1, r => .unusable :: gap n r
def poolList (es : List (Nat × CpInfo)) (last : Nat) : List CpInfo := es.foldr (fun e r => gap e.1 (e.2 :: r)) (gap last [])
def pool (es : List (Nat × CpInfo)) (last : Nat) : Array CpInfo := ⟨poolList es last⟩
def fileOf (pool : Array CpInfo) (this : Nat) (attrs : Array Attribute := #[]) (ms : Array MethodInfo := #[]) (fl : Nat := 33) (sup : Nat := 0) (ifs : Array Nat := #[]) (fds : Array FieldInfo := #[]) : ClassFile where
  minorVersion := 0
  majorVersion := 65
  constantPool := pool
  accessFlags := fl
  thisClass := this
  superClass := sup
  interfaces := ifs
  fields := fds
  methods := ms
  attributes := attrs
def plain (name : String) (sup : Option ClassId) : Class where
  name := name
  kind := .ordinary
  loader := none
  accessFlags := 33
  super := sup
  interfaces := #[]
  cf := none
  fields := #[]
  methods := #[]
  instanceTypes := #[]
  staticTypes := #[]
  resolved := #[]
  callSites := []
  init := .initialized
  statics := none
  mirror := none

def pool0 : Array CpInfo := pool [(5, u "<init>"), (0, u "()V"), (1, .class_ 10), (1, u "java/lang/Object")] 113

def k0m0 : Method := { name := "<init>", desc := "()V", sig := { parameters := [], returnType := none }, accessFlags := 1, code := none }
/-- java/lang/Object -/
def k0 : Class := { plain "java/lang/Object" none with
  accessFlags := 33
  interfaces := #[]
  cf := some (fileOf pool0 8 #[] #[{ accessFlags := 1, nameIndex := 5, descriptorIndex := 6, attributes := #[] }] 33 0 #[] #[])
  fields := #[]
  methods := #[k0m0]
  instanceTypes := #[]
  staticTypes := #[]
  resolved := Array.replicate 124 none
  statics := none }

def pool1 : Array CpInfo := pool [(2, .class_ 4), (1, u "java/lang/Object"), (0, u "<init>"), (0, u "()V"), (0, .class_ 8), (0, u "com/example/arnero/arnero/HashSchemePlacePinLaw"), (0, .long 4294967295), (1, .integer 2147483647), (0, .long 65535), (3, .long 9223372036854775807), (1, .methodref 19 20), (0, .class_ 21), (0, .nameAndType 22 23), (0, u "java/lang/Math"), (0, u "max"), (0, u "(JJ)J"), (0, .methodref 7 25), (0, .nameAndType 26 23), (0, u "unsignedHigh"), (0, .methodref 28 29), (0, .class_ 30), (0, .nameAndType 31 32), (0, u "com/example/arnero/arnero/HashScheme"), (0, u "place"), (0, u "(JJIJ)J"), (0, u "MASK32"), (0, u "J"), (3, u "law"), (0, u "(JJIJI)Z")] 3

def k1m0 : Method := { name := "<init>", desc := "()V", sig := { parameters := [], returnType := none }, accessFlags := 2, code := none }
def k1c1 : Code := { maxStack := 6, maxLocals := 22, code := method_2_code, exceptionTable := #[], attributes := #[] }
def k1m1 : Method := { name := "unsignedHigh", desc := "(JJ)J", sig := { parameters := [.long, .long], returnType := some .long }, accessFlags := 10, code := some k1c1 }
def k1c2 : Code := { maxStack := 7, maxLocals := 17, code := code, exceptionTable := #[], attributes := #[] }
def k1m2 : Method := { name := "law", desc := "(JJIJI)Z", sig := { parameters := [.long, .long, .int, .long, .int], returnType := some .boolean }, accessFlags := 9, code := some k1c2 }
/-- com/example/arnero/arnero/HashSchemePlacePinLaw -/
def k1 : Class := { plain "com/example/arnero/arnero/HashSchemePlacePinLaw" (some 0) with
  accessFlags := 49
  interfaces := #[]
  cf := some (fileOf pool1 7 #[] #[{ accessFlags := 2, nameIndex := 5, descriptorIndex := 6, attributes := #[] }, { accessFlags := 10, nameIndex := 26, descriptorIndex := 23, attributes := #[] }, { accessFlags := 9, nameIndex := 38, descriptorIndex := 39, attributes := #[] }] 49 2 #[] #[{ accessFlags := 26, nameIndex := 33, descriptorIndex := 34, attributes := #[] }])
  fields := #[{ name := "MASK32", type := .long, accessFlags := 26, slot := 0, constantValue := 0 }]
  methods := #[k1m0, k1m1, k1m2]
  instanceTypes := #[]
  staticTypes := #[.long]
  resolved := Array.replicate 43 none
  statics := none }

def pool2 : Array CpInfo := pool [(1, .class_ 2), (0, u "java/lang/Math"), (1, .class_ 6), (1, u "java/lang/Object"), (0, u "<init>"), (0, u "()V"), (89, .class_ 100), (1, u "java/lang/Math$RandomNumberGeneratorHolder"), (20, u "(JJ)J"), (16, .long 4294967295), (3, u "multiplyHigh"), (29, u "negativeZeroFloatBits"), (0, u "J"), (2, u "negativeZeroDoubleBits"), (21, u "max"), (46, u "$assertionsDisabled"), (0, u "Z"), (91, u "twoToTheDoubleScaleDown"), (0, u "D"), (4, u "twoToTheDoubleScaleUp"), (9, u "E"), (3, u "PI"), (2, u "TAU"), (2, u "DEGREES_TO_RADIANS"), (0, u "RADIANS_TO_DEGREES")] 94

def k2m0 : Method := { name := "<init>", desc := "()V", sig := { parameters := [], returnType := none }, accessFlags := 2, code := none }
def k2c1 : Code := { maxStack := 6, maxLocals := 20, code := jdk_29_method_45_code, exceptionTable := #[], attributes := #[] }
def k2m1 : Method := { name := "multiplyHigh", desc := "(JJ)J", sig := { parameters := [.long, .long], returnType := some .long }, accessFlags := 9, code := some k2c1 }
def k2c2 : Code := { maxStack := 4, maxLocals := 4, code := jdk_29_method_66_code, exceptionTable := #[], attributes := #[] }
def k2m2 : Method := { name := "max", desc := "(JJ)J", sig := { parameters := [.long, .long], returnType := some .long }, accessFlags := 9, code := some k2c2 }
/-- java/lang/Math -/
def k2 : Class := { plain "java/lang/Math" (some 0) with
  accessFlags := 49
  interfaces := #[]
  cf := some (fileOf pool2 1 #[.nestMembers #[98]] #[{ accessFlags := 2, nameIndex := 7, descriptorIndex := 8, attributes := #[] }, { accessFlags := 9, nameIndex := 142, descriptorIndex := 121, attributes := #[] }, { accessFlags := 9, nameIndex := 198, descriptorIndex := 121, attributes := #[] }] 49 4 #[] #[{ accessFlags := 25, nameIndex := 354, descriptorIndex := 339, attributes := #[] }, { accessFlags := 25, nameIndex := 358, descriptorIndex := 339, attributes := #[] }, { accessFlags := 25, nameIndex := 361, descriptorIndex := 339, attributes := #[] }, { accessFlags := 26, nameIndex := 364, descriptorIndex := 339, attributes := #[] }, { accessFlags := 26, nameIndex := 365, descriptorIndex := 339, attributes := #[] }, { accessFlags := 26, nameIndex := 172, descriptorIndex := 173, attributes := #[] }, { accessFlags := 26, nameIndex := 176, descriptorIndex := 173, attributes := #[] }, { accessFlags := 8, nameIndex := 344, descriptorIndex := 339, attributes := #[] }, { accessFlags := 8, nameIndex := 338, descriptorIndex := 339, attributes := #[] }, { accessFlags := 4120, nameIndex := 245, descriptorIndex := 246, attributes := #[] }])
  fields := #[{ name := "E", type := .double, accessFlags := 25, slot := 0, constantValue := 0 }, { name := "PI", type := .double, accessFlags := 25, slot := 1, constantValue := 0 }, { name := "TAU", type := .double, accessFlags := 25, slot := 2, constantValue := 0 }, { name := "DEGREES_TO_RADIANS", type := .double, accessFlags := 26, slot := 3, constantValue := 0 }, { name := "RADIANS_TO_DEGREES", type := .double, accessFlags := 26, slot := 4, constantValue := 0 }, { name := "negativeZeroFloatBits", type := .long, accessFlags := 26, slot := 5, constantValue := 0 }, { name := "negativeZeroDoubleBits", type := .long, accessFlags := 26, slot := 6, constantValue := 0 }, { name := "twoToTheDoubleScaleUp", type := .double, accessFlags := 8, slot := 7, constantValue := 0 }, { name := "twoToTheDoubleScaleDown", type := .double, accessFlags := 8, slot := 8, constantValue := 0 }, { name := "$assertionsDisabled", type := .boolean, accessFlags := 4120, slot := 9, constantValue := 0 }]
  methods := #[k2m0, k2m1, k2m2]
  instanceTypes := #[]
  staticTypes := #[.double, .double, .double, .double, .double, .long, .long, .double, .double, .boolean]
  resolved := Array.replicate 460 none
  statics := none }

def pool3 : Array CpInfo := pool [(2, .class_ 4), (1, u "java/lang/Object"), (0, u "<init>"), (0, u "()V"), (6, .class_ 14), (0, u "com/example/arnero/arnero/HashScheme"), (9, u "(JJ)J"), (8, .methodref 34 35), (0, .class_ 36), (0, .nameAndType 37 24), (0, u "java/lang/Math"), (0, u "multiplyHigh"), (14, u "ID"), (0, u "I"), (2, u "GOLDEN"), (0, u "J"), (0, u "BLOCK_MULTIPLIER"), (0, u "ROUND_MULTIPLIER"), (0, u "ROUND_ROTATION"), (1, u "FINISH_MULTIPLIER_1"), (0, u "FINISH_MULTIPLIER_2"), (0, u "STRIDE_MULTIPLIER_1"), (0, u "STRIDE_MULTIPLIER_2"), (6, u "place"), (0, u "(JJIJ)J")] 2

def k3m0 : Method := { name := "<init>", desc := "()V", sig := { parameters := [], returnType := none }, accessFlags := 2, code := none }
def k3c1 : Code := { maxStack := 6, maxLocals := 9, code := prog_6_method_4_code, exceptionTable := #[], attributes := #[] }
def k3m1 : Method := { name := "place", desc := "(JJIJ)J", sig := { parameters := [.long, .long, .int, .long], returnType := some .long }, accessFlags := 8, code := some k3c1 }
/-- com/example/arnero/arnero/HashScheme -/
def k3 : Class := { plain "com/example/arnero/arnero/HashScheme" (some 0) with
  accessFlags := 32
  interfaces := #[]
  cf := some (fileOf pool3 13 #[] #[{ accessFlags := 2, nameIndex := 5, descriptorIndex := 6, attributes := #[] }, { accessFlags := 8, nameIndex := 72, descriptorIndex := 73, attributes := #[] }] 32 2 #[] #[{ accessFlags := 24, nameIndex := 52, descriptorIndex := 53, attributes := #[] }, { accessFlags := 26, nameIndex := 56, descriptorIndex := 57, attributes := #[] }, { accessFlags := 26, nameIndex := 58, descriptorIndex := 57, attributes := #[] }, { accessFlags := 26, nameIndex := 59, descriptorIndex := 57, attributes := #[] }, { accessFlags := 26, nameIndex := 60, descriptorIndex := 53, attributes := #[] }, { accessFlags := 26, nameIndex := 62, descriptorIndex := 57, attributes := #[] }, { accessFlags := 26, nameIndex := 63, descriptorIndex := 57, attributes := #[] }, { accessFlags := 26, nameIndex := 64, descriptorIndex := 57, attributes := #[] }, { accessFlags := 26, nameIndex := 65, descriptorIndex := 57, attributes := #[] }])
  fields := #[{ name := "ID", type := .int, accessFlags := 24, slot := 0, constantValue := 0 }, { name := "GOLDEN", type := .long, accessFlags := 26, slot := 1, constantValue := 0 }, { name := "BLOCK_MULTIPLIER", type := .long, accessFlags := 26, slot := 2, constantValue := 0 }, { name := "ROUND_MULTIPLIER", type := .long, accessFlags := 26, slot := 3, constantValue := 0 }, { name := "ROUND_ROTATION", type := .int, accessFlags := 26, slot := 4, constantValue := 0 }, { name := "FINISH_MULTIPLIER_1", type := .long, accessFlags := 26, slot := 5, constantValue := 0 }, { name := "FINISH_MULTIPLIER_2", type := .long, accessFlags := 26, slot := 6, constantValue := 0 }, { name := "STRIDE_MULTIPLIER_1", type := .long, accessFlags := 26, slot := 7, constantValue := 0 }, { name := "STRIDE_MULTIPLIER_2", type := .long, accessFlags := 26, slot := 8, constantValue := 0 }]
  methods := #[k3m0, k3m1]
  instanceTypes := #[]
  staticTypes := #[.int, .long, .long, .long, .int, .long, .long, .long, .long]
  resolved := Array.replicate 76 none
  statics := none }

def pool4 : Array CpInfo := pool [(1, u "java/lang/Cloneable"), (0, .class_ 1), (0, u "java/lang/Object"), (0, .class_ 3)] 3

/-- java/lang/Cloneable -/
def k4 : Class := { plain "java/lang/Cloneable" (some 0) with
  accessFlags := 1537
  interfaces := #[]
  cf := some (fileOf pool4 2 #[] #[] 1537 4 #[] #[])
  fields := #[]
  methods := #[]
  instanceTypes := #[]
  staticTypes := #[]
  resolved := Array.replicate 8 none
  statics := none }

def pool5 : Array CpInfo := pool [(1, u "java/io/Serializable"), (0, .class_ 1), (0, u "java/lang/Object"), (0, .class_ 3)] 3

/-- java/io/Serializable -/
def k5 : Class := { plain "java/io/Serializable" (some 0) with
  accessFlags := 1537
  interfaces := #[]
  cf := some (fileOf pool5 2 #[] #[] 1537 4 #[] #[])
  fields := #[]
  methods := #[]
  instanceTypes := #[]
  staticTypes := #[]
  resolved := Array.replicate 8 none
  statics := none }

/-- the primitive byte -/
def k6 : Class := { plain "byte" none with kind := .primitive 'B', accessFlags := 0x411 }
/-- [B -/
def k7 : Class := { plain "[B" (some 0) with kind := .array 6 .byte, interfaces := #[4, 5], accessFlags := 1041 }

/-- the primitive int -/
def k8 : Class := { plain "int" none with kind := .primitive 'I', accessFlags := 0x411 }
/-- [I -/
def k9 : Class := { plain "[I" (some 0) with kind := .array 8 .int, interfaces := #[4, 5], accessFlags := 1041 }

def heap : Heap := #[]
def classes : Array Class := #[k0, k1, k2, k3, k4, k5, k6, k7, k8, k9]
def interned : List (Array UInt16 × Addr) := []
def slotsUsed : Nat := 0
def theMethod : MethodId := ⟨1, 2⟩
def args0 : Array Value := #[.long 5, .long 7, .int 3, .long 100, .int 1]
def aboutOver (below : List Frame) : State where
  vm := { classes := classes, interned := interned.toArray }
  heap := heap
  slotsUsed := slotsUsed
  threads := #[{ frames := .invoking theMethod args0 :: below }]
def below0 : List Frame := [.native { method := ⟨0, 0⟩, args := #[] }]
def about1 : State := aboutOver below0
def p0 : Program := .bare "" "" ""
def e0 : Env := launch0.env 0 0 0
theorem w_frames : about1.frames = Frame.invoking theMethod args0 :: below0 := rfl
set_option maxRecDepth 65536 in
theorem w_args : argsFit about1.vm theMethod args0 = true := by decide +kernel
set_option maxRecDepth 65536 in
theorem w_heap : heapFits about1 = true := by decide +kernel
set_option maxRecDepth 65536 in
theorem w_runnable : about1.curStatus? = some .runnable := by decide +kernel
set_option maxRecDepth 65536 in
theorem w_alone : about1.alone = true := by decide +kernel
set_option maxRecDepth 65536 in
theorem w_named : about1.methodNamed? x = some theMethod := by decide +kernel
set_option maxRecDepth 65536 in
theorem w_hears : about1.hears theMethod below0 = true := by decide +kernel
set_option maxRecDepth 65536 in
theorem w_ripe : about1.ripe theMethod args0 below0 = true := by decide +kernel
theorem w_running : about1.status = .running := rfl
set_option maxRecDepth 65536 in
theorem w_room : about1.hasRoom e0.platform room_1 = true :=
  launch0.hasRoom_least _ room_1 (by decide +kernel) (by decide +kernel) (by decide +kernel) (by decide +kernel) (by decide +kernel) (by decide +kernel)
theorem allAtoms_all (ts : List Jvm.Cond) (a : Array Jvm.Value) (st : Jvm.State) : (allAtoms ts).before a st = ts.all (fun c => c.before a st) := by
  induction ts with
  | nil => rfl
  | cons c t ih =>
    show (Jvm.Cond.and c (allAtoms t)).before a st = _
    rw [Jvm.Cond.before_and, ih, List.all_cons]
def words1 : List Jvm.Cond := Jvm.Cond.code x code maxLocals ret :: tables_1
/-- a 'code' word, met by the world's own term for the bytes: nothing is compared byte by byte -/
theorem code_word {y : MethodName} {bytes : ByteArray} {mx : Nat} {rt : Option FieldType} {a : Array Value} {s : State} {m : MethodId} {meth : Method} {c : Code} (h1 : s.methodNamed? y = some m) (h2 : s.vm.method? m = some meth) (h3 : meth.code = some c) (h4 : c.code = bytes)
    (h5 : (c.maxLocals == mx && c.exceptionTable.isEmpty && decide (c.maxStack ≤ mostOperands) && decide (meth.sig.returnType = rt) && !meth.locks && decide (parseMethodDescriptor y.desc = some meth.sig)) = true) : (Jvm.Cond.code y bytes mx rt).before a s = true := by
  simp only [Bool.and_eq_true, beq_iff_eq, Bool.not_eq_true', decide_eq_true_eq] at h5
  obtain ⟨⟨⟨⟨⟨g1, g2⟩, g3⟩, g4⟩, g5⟩, g6⟩ := h5
  simp [Cond.before, Cond.holds, Cond.value, h1, h2, h3, h4, g1, g2, g3, g4, g5, g6]
def isCode : Jvm.Cond → Bool
  | .code _ _ _ _ => true
  | _ => false
theorem all_split {L : List Jvm.Cond} {P : Jvm.Cond → Bool} (h1 : L.all (fun c => isCode c || P c) = true) (h2 : ∀ c ∈ L.filter isCode, P c = true) : L.all P = true := by
  refine List.all_eq_true.mpr fun c hc => ?_
  have h := List.all_eq_true.mp h1 c hc
  rcases Bool.eq_false_or_eq_true (isCode c) with hi | hi
  · exact h2 c (List.mem_filter.mpr ⟨hc, hi⟩)
  · simpa [hi] using h
set_option maxRecDepth 65536 in
theorem w_c0 : (Jvm.Cond.code x code maxLocals ret).before args0 about1 = true := code_word (m := ⟨1, 2⟩) (meth := k1m2) (c := k1c2) (by decide +kernel) rfl rfl rfl (by decide +kernel)
set_option maxRecDepth 65536 in
theorem w_c1 : (Jvm.Cond.code ({ cls := "java/lang/Math", name := "max", desc := "(JJ)J" } : Jvm.MethodName) jdk_29_method_66_code (4 : Nat) (Option.some Jvm.ClassFile.FieldType.long)).before args0 about1 = true := code_word (m := ⟨2, 2⟩) (meth := k2m2) (c := k2c2) (by decide +kernel) rfl rfl rfl (by decide +kernel)
set_option maxRecDepth 65536 in
theorem w_c2 : (Jvm.Cond.code ({ cls := "com/example/arnero/arnero/HashSchemePlacePinLaw", name := "unsignedHigh", desc := "(JJ)J" } : Jvm.MethodName) method_2_code (22 : Nat) (Option.some Jvm.ClassFile.FieldType.long)).before args0 about1 = true := code_word (m := ⟨1, 1⟩) (meth := k1m1) (c := k1c1) (by decide +kernel) rfl rfl rfl (by decide +kernel)
set_option maxRecDepth 65536 in
theorem w_c3 : (Jvm.Cond.code ({ cls := "com/example/arnero/arnero/HashScheme", name := "place", desc := "(JJIJ)J" } : Jvm.MethodName) prog_6_method_4_code (9 : Nat) (Option.some Jvm.ClassFile.FieldType.long)).before args0 about1 = true := code_word (m := ⟨3, 1⟩) (meth := k3m1) (c := k3c1) (by decide +kernel) rfl rfl rfl (by decide +kernel)
set_option maxRecDepth 65536 in
theorem w_c4 : (Jvm.Cond.code ({ cls := "java/lang/Math", name := "multiplyHigh", desc := "(JJ)J" } : Jvm.MethodName) jdk_29_method_45_code (20 : Nat) (Option.some Jvm.ClassFile.FieldType.long)).before args0 about1 = true := code_word (m := ⟨2, 1⟩) (meth := k2m1) (c := k2c1) (by decide +kernel) rfl rfl rfl (by decide +kernel)
def codes1 : List Jvm.Cond := [Jvm.Cond.code x code maxLocals ret, Jvm.Cond.code ({ cls := "java/lang/Math", name := "max", desc := "(JJ)J" } : Jvm.MethodName) jdk_29_method_66_code (4 : Nat) (Option.some Jvm.ClassFile.FieldType.long), Jvm.Cond.code ({ cls := "com/example/arnero/arnero/HashSchemePlacePinLaw", name := "unsignedHigh", desc := "(JJ)J" } : Jvm.MethodName) method_2_code (22 : Nat) (Option.some Jvm.ClassFile.FieldType.long), Jvm.Cond.code ({ cls := "com/example/arnero/arnero/HashScheme", name := "place", desc := "(JJIJ)J" } : Jvm.MethodName) prog_6_method_4_code (9 : Nat) (Option.some Jvm.ClassFile.FieldType.long), Jvm.Cond.code ({ cls := "java/lang/Math", name := "multiplyHigh", desc := "(JJ)J" } : Jvm.MethodName) jdk_29_method_45_code (20 : Nat) (Option.some Jvm.ClassFile.FieldType.long)]
set_option maxRecDepth 65536 in
theorem codes_eq : words1.filter isCode = codes1 := rfl
theorem w_codes : ∀ c ∈ words1.filter isCode, c.before args0 about1 = true := by
  rw [codes_eq]
  intro c hc
  simp only [codes1, List.mem_cons, List.not_mem_nil, or_false] at hc
  rcases hc with rfl | rfl | rfl | rfl | rfl
  · exact w_c0
  · exact w_c1
  · exact w_c2
  · exact w_c3
  · exact w_c4
set_option maxRecDepth 65536 in
theorem w_t1 : words1.all (fun c => isCode c || c.before args0 about1) = true := by decide +kernel
theorem w_tables : (allAtoms (Jvm.Cond.code x code maxLocals ret :: tables_1)).before args0 about1 = true := by
  rw [allAtoms_all]
  show words1.all (fun c => c.before args0 about1) = true
  refine all_split ?_ w_codes
  rw [w_t1]
set_option maxRecDepth 65536 in
theorem w_case : (Jvm.Cond.and given_1 narrow_1).before args0 about1 = true := by decide +kernel
theorem w_applies : (headSpec (Jvm.Cond.code x code maxLocals ret :: tables_1) room_1).applies x e0.platform about1 = true :=
  (Spec.applies_iff w_frames).mpr ⟨w_running, w_runnable, w_alone, w_named, w_hears, w_ripe, w_room, w_tables⟩
theorem atStart : AtStart classFile x code maxLocals ret World_1 tables_1 room_1 Calls_1 rest_1 Pre_1 launch0 p0 e0 about1 theMethod args0 below0 :=
  ⟨lists_1, trivial, launch0.admits_env _ _ _, launch0.least_env, fairChoices_fair.cas, fairChoices_fair.clock, w_frames, w_args, w_heap, w_applies, trivial, trivial, w_case⟩
end start1
theorem witness_1 : WitnessClaimed_1 := ⟨start1.p0, start1.e0, start1.about1, start1.theMethod, start1.args0, start1.below0, start1.atStart⟩
end Jvm.Pilot.@@N@@
