import JvmDerived
import JvmDerived.Pilot.@@N@@Statement
import JvmDerived.Pilot.@@N@@Code
set_option linter.unusedVariables false
set_option linter.unusedSimpArgs false
namespace Jvm.OwnKit
open Sem ClassFile Op Lib Jvm.Stand Jvm.Free Jvm.LawKit Jvm.RoadKit
/-- from S the run comes to a state of which Φ holds -/
def Go (p : Program) (e : Env) (below : List Frame) (Φ : State → Prop) (S : State) : Prop := ∃ u, Steps p.tables e below S u ∧ Φ u
theorem Go.step {p : Program} {e : Env} {below : List Frame} {Φ : State → Prop} {S S' : State} (h : ∀ t, Steps p.tables e below S' t → Steps p.tables e below S t) (k : Go p e below Φ S') : Go p e below Φ S := by
  obtain ⟨u, q, r⟩ := k
  exact ⟨u, h u q, r⟩
theorem Go.trans {p : Program} {e : Env} {below : List Frame} {Φ : State → Prop} {S S' : State} (h : Steps p.tables e below S S') (k : Go p e below Φ S') : Go p e below Φ S := by
  obtain ⟨u, q, r⟩ := k
  exact ⟨u, Steps.trans h q, r⟩
theorem Go.here {p : Program} {e : Env} {below : List Frame} {Φ : State → Prop} {S : State} (k : Φ S) : Go p e below Φ S := ⟨S, Steps.refl _, k⟩
/-- the end of a body -/
def FinQ (below : List Frame) (s : State) (Q : Option Value → Heap → List Loc → Prop) (k n : Nat) (u : State) : Prop :=
  ∃ o, u.status = .running ∧ Ended u below o ∧ ∃ v L, o = .returned v ∧ Q v u.heap L ∧ FrameEnd s o u L k n
theorem Go.done {p : Program} {e : Env} {below : List Frame} {s : State} {Q : Option Value → Heap → List Loc → Prop} {k n : Nat} {S : State} (h : Go p e below (FinQ below s Q k n) S) :
    ∃ s₂ o, Steps p.tables e below S s₂ ∧ s₂.status = .running ∧ Ended s₂ below o ∧ ∃ v L, o = .returned v ∧ Q v s₂.heap L ∧ FrameEnd s o s₂ L k n := by
  obtain ⟨u, q, o, r1, r2, r3⟩ := h
  exact ⟨u, o, q, r1, r2, r3⟩
section New
variable {p : Program} {l : Launch} {e : Env} {R : Room} {s : State} {m : MethodId} {args : Array Value} {below : List Frame} {meth : Method} {c : Code} {T : State} {locs : List Loc} {cells slots : Nat}
/-- the run stands at the frame F, in a heap h -/
def AtF (p : Program) (l : Launch) (e : Env) (R : Room) (s : State) (m : MethodId) (args : Array Value) (below : List Frame) (meth : Method) (c : Code) (n0 cells slots : Nat) (h : Heap) (F : JFrame) (u : State) : Prop :=
  ∃ T' locs', u = T'.setTop F ∧ Stand p l e R s m args below meth c T' locs' cells slots ∧ Fr n0 locs' ∧ T'.heap = h
theorem retG {pc : Nat} {Ls : Array Slot} {w : Value} {t : FieldType} {i : Instr} {rest : List Value} {Q : Option Value → Heap → List Loc → Prop} {k n : Nat}
    (X : Stand p l e R s m args below meth c T locs cells slots) (hx : p.tables.exec = Jvm.exec) (hlocks : meth.locks = false) (hret : meth.sig.returnType = some t) (hn : narrow t w = w)
    (hi : (i = .ireturn ∧ (t = .int ∨ t = .boolean ∨ t = .byte ∨ t = .char ∨ t = .short) ∧ ∃ z, w = .int z) ∨ (i = .lreturn ∧ t = .long ∧ ∃ z, w = .long z) ∨ (i = .dreturn ∧ t = .double ∧ ∃ z, w = .double z) ∨ (i = .freturn ∧ t = .float ∧ ∃ z, w = .float z) ∨ (i = .areturn ∧ t.isReference = true ∧ w.isRef = true))
    (hd : decode c.code pc = .ok (i, 1)) (hQ : Q (some w) T.heap locs) (hc : cells ≤ k) (hs : slots ≤ n) : Go p e below (FinQ below s Q k n) (T.setTop (mkF m pc Ls (w :: rest))) := by
  obtain ⟨fs, hr, hrun, hended, hW, hsame⟩ := X.leave (v := some w) (fun h => by rw [hret] at h; cases h) hlocks
  exact ⟨_, retOut X hx hret hn hi hd hr, _, hrun, hended, _, _, rfl, hQ, ⟨_, rfl⟩, hW, hsame.mono hc hs⟩
theorem retGI {pc : Nat} {Ls : Array Slot} {z : Int32} {rest : List Value} {Q : Option Value → Heap → List Loc → Prop} {k n : Nat}
    (X : Stand p l e R s m args below meth c T locs cells slots) (hx : p.tables.exec = Jvm.exec) (hlocks : meth.locks = false) (hret : meth.sig.returnType = some .int)
    (hd : decode c.code pc = .ok (.ireturn, 1)) (hQ : Q (some (.int z)) T.heap locs) (hc : cells ≤ k) (hs : slots ≤ n) : Go p e below (FinQ below s Q k n) (T.setTop (mkF m pc Ls (.int z :: rest))) :=
  retG X hx hlocks hret rfl (Or.inl ⟨rfl, Or.inl rfl, _, rfl⟩) hd hQ hc hs
theorem retGJ {pc : Nat} {Ls : Array Slot} {z : Int64} {rest : List Value} {Q : Option Value → Heap → List Loc → Prop} {k n : Nat}
    (X : Stand p l e R s m args below meth c T locs cells slots) (hx : p.tables.exec = Jvm.exec) (hlocks : meth.locks = false) (hret : meth.sig.returnType = some .long)
    (hd : decode c.code pc = .ok (.lreturn, 1)) (hQ : Q (some (.long z)) T.heap locs) (hc : cells ≤ k) (hs : slots ≤ n) : Go p e below (FinQ below s Q k n) (T.setTop (mkF m pc Ls (.long z :: rest))) :=
  retG X hx hlocks hret rfl (Or.inr (Or.inl ⟨rfl, rfl, _, rfl⟩)) hd hQ hc hs
theorem retGR {pc : Nat} {Ls : Array Slot} {a : Addr} {t : FieldType} {rest : List Value} {Q : Option Value → Heap → List Loc → Prop} {k n : Nat}
    (X : Stand p l e R s m args below meth c T locs cells slots) (hx : p.tables.exec = Jvm.exec) (hlocks : meth.locks = false) (hret : meth.sig.returnType = some t) (ht : t.isReference = true) (hn : narrow t (.ref a) = .ref a)
    (hd : decode c.code pc = .ok (.areturn, 1)) (hQ : Q (some (.ref a)) T.heap locs) (hc : cells ≤ k) (hs : slots ≤ n) : Go p e below (FinQ below s Q k n) (T.setTop (mkF m pc Ls (.ref a :: rest))) :=
  retG X hx hlocks hret hn (Or.inr (Or.inr (Or.inr (Or.inr ⟨rfl, ht, rfl⟩)))) hd hQ hc hs
theorem retGN {pc : Nat} {Ls : Array Slot} {z z' : Int32} {t : FieldType} {rest : List Value} {Q : Option Value → Heap → List Loc → Prop} {k n : Nat}
    (X : Stand p l e R s m args below meth c T locs cells slots) (hx : p.tables.exec = Jvm.exec) (hlocks : meth.locks = false) (hret : meth.sig.returnType = some t) (ht : t = .boolean ∨ t = .byte ∨ t = .char ∨ t = .short) (hz : nar t z = z')
    (hd : decode c.code pc = .ok (.ireturn, 1)) (hQ : Q (some (.int z')) T.heap locs) (hc : cells ≤ k) (hs : slots ≤ n) : Go p e below (FinQ below s Q k n) (T.setTop (mkF m pc Ls (.int z :: rest))) := by
  subst hz
  obtain ⟨fs, hr, hrun, hended, hW, hsame⟩ := X.leave (v := some (.int (nar t z))) (fun h => by rw [hret] at h; cases h) hlocks
  exact ⟨_, retN X hx hret ht hd hr, _, hrun, hended, _, _, rfl, hQ, ⟨_, rfl⟩, hW, hsame.mono hc hs⟩
theorem retGV {pc : Nat} {Ls : Array Slot} {Q : Option Value → Heap → List Loc → Prop} {k n : Nat}
    (X : Stand p l e R s m args below meth c T locs cells slots) (hx : p.tables.exec = Jvm.exec) (hlocks : meth.locks = false) (hret : meth.sig.returnType = none)
    (hd : decode c.code pc = .ok (.return_, 1)) (hQ : Q none T.heap locs) (hc : cells ≤ k) (hs : slots ≤ n) : Go p e below (FinQ below s Q k n) (T.setTop (mkF m pc Ls [])) := by
  obtain ⟨fs, hr, hrun, hended, hW, hsame⟩ := X.leave (v := none) (fun _ => rfl) hlocks
  exact ⟨_, X.returnOut hx hret hd hr, _, hrun, hended, _, _, rfl, hQ, ⟨_, rfl⟩, hW, hsame.mono hc hs⟩
end New
/-- a body that writes nothing and returns r -/
def QP (r : Value) (h0 : Heap) (n0 : Nat) (v : Option Value) (h : Heap) (L : List Loc) : Prop := v = some r ∧ Fr n0 L ∧ h = h0
def QV (h0 : Heap) (n0 : Nat) (v : Option Value) (h : Heap) (L : List Loc) : Prop := v = none ∧ Fr n0 L ∧ h = h0
/-- a law: it returns r and writes nothing old -/
def QL (r : Value) (n0 : Nat) (v : Option Value) (h : Heap) (L : List Loc) : Prop := v = some r ∧ Fr n0 L
theorem remI (x y : Int32) : x - (x / y) * y = x % y := by
  rw [← Int32.toInt_inj, Int32.toInt_sub, Int32.toInt_mul, Int32.toInt_div, Int32.toInt_mod]
  have h := Int.tmod_add_mul_tdiv x.toInt y.toInt
  have r : (x.toInt.tmod y.toInt).bmod (2 ^ 32) = x.toInt.tmod y.toInt := by
    have := Int32.toInt_bmod (x % y)
    rwa [Int32.toInt_mod] at this
  rw [← r]
  have e : ((x.toInt.tdiv y.toInt).bmod (2 ^ 32) * y.toInt).bmod (2 ^ 32) = (x.toInt.tdiv y.toInt * y.toInt).bmod (2 ^ 32) := by simp
  rw [e, Int.sub_bmod_bmod]
  congr 1
  have := Int.mul_comm (x.toInt.tdiv y.toInt) y.toInt
  omega
theorem addI {x y : Int32} (h1 : -2147483648 ≤ x.toInt + y.toInt) (h2 : x.toInt + y.toInt < 2147483648) : (x + y).toInt = x.toInt + y.toInt := by have := c_iadd x y; have := rng32 (x + y); omega
theorem subI {x y : Int32} (h1 : -2147483648 ≤ x.toInt - y.toInt) (h2 : x.toInt - y.toInt < 2147483648) : (x - y).toInt = x.toInt - y.toInt := by have := c_isub x y; have := rng32 (x - y); omega
theorem mulI {x y : Int32} (h1 : -2147483648 ≤ x.toInt * y.toInt) (h2 : x.toInt * y.toInt < 2147483648) : (x * y).toInt = x.toInt * y.toInt := by have := c_imul x y; have := rng32 (x * y); omega
theorem addL {x y : Int64} (h1 : -9223372036854775808 ≤ x.toInt + y.toInt) (h2 : x.toInt + y.toInt < 9223372036854775808) : (x + y).toInt = x.toInt + y.toInt := by have := c_ladd x y; have := rng64 (x + y); omega
theorem subL {x y : Int64} (h1 : -9223372036854775808 ≤ x.toInt - y.toInt) (h2 : x.toInt - y.toInt < 9223372036854775808) : (x - y).toInt = x.toInt - y.toInt := by have := c_lsub x y; have := rng64 (x - y); omega
theorem mulL {x y : Int64} (h1 : -9223372036854775808 ≤ x.toInt * y.toInt) (h2 : x.toInt * y.toInt < 9223372036854775808) : (x * y).toInt = x.toInt * y.toInt := by have := c_lmul x y; have := rng64 (x * y); omega
theorem modI {x y : Int32} (d : Int) (hy : y.toInt = d) (hx : 0 ≤ x.toInt) : (x % y).toInt = x.toInt % d := by rw [Int32.toInt_mod, hy]; exact (tr _ _).1 hx
theorem modL {x y : Int64} (d : Int) (hy : y.toInt = d) (hx : 0 ≤ x.toInt) : (x % y).toInt = x.toInt % d := by rw [Int64.toInt_mod, hy]; exact (tr _ _).1 hx
end Jvm.OwnKit
namespace Jvm.Pilot.@@N@@
open Jvm Jvm.ClassFile Sem Op Lib Jvm.Free Jvm.Stand Jvm.LawKit Jvm.RoadKit Jvm.OwnKit Bundle Jvm.Pilot.@@N@@.Jvm.D
theorem d1_0 : decode prog_35_method_2_code 0 = .ok (.iload_n 0, 1) := by decide +kernel
theorem d1_1 : decode prog_35_method_2_code 1 = .ok (.bipush 32, 2) := by decide +kernel
theorem d1_3 : decode prog_35_method_2_code 3 = .ok (.if_icmp .ge 27, 3) := by decide +kernel
theorem d1_6 : decode prog_35_method_2_code 6 = .ok (.iload_n 0, 1) := by decide +kernel
theorem d1_7 : decode prog_35_method_2_code 7 = .ok (.bipush 9, 2) := by decide +kernel
theorem d1_9 : decode prog_35_method_2_code 9 = .ok (.if_icmp .eq 15, 3) := by decide +kernel
theorem d1_24 : decode prog_35_method_2_code 24 = .ok (.iconst 1, 1) := by decide +kernel
theorem d1_25 : decode prog_35_method_2_code 25 = .ok (.goto 4, 3) := by decide +kernel
theorem d1_29 : decode prog_35_method_2_code 29 = .ok (.ireturn, 1) := by decide +kernel
theorem d1_12 : decode prog_35_method_2_code 12 = .ok (.iload_n 0, 1) := by decide +kernel
theorem d1_13 : decode prog_35_method_2_code 13 = .ok (.bipush 10, 2) := by decide +kernel
theorem d1_15 : decode prog_35_method_2_code 15 = .ok (.if_icmp .eq 9, 3) := by decide +kernel
theorem d1_18 : decode prog_35_method_2_code 18 = .ok (.iload_n 0, 1) := by decide +kernel
theorem d1_19 : decode prog_35_method_2_code 19 = .ok (.bipush 13, 2) := by decide +kernel
theorem d1_21 : decode prog_35_method_2_code 21 = .ok (.if_icmp .ne 7, 3) := by decide +kernel
theorem d1_28 : decode prog_35_method_2_code 28 = .ok (.iconst 0, 1) := by decide +kernel
theorem d1_30 : decode prog_35_method_2_code 30 = .ok (.iload_n 0, 1) := by decide +kernel
theorem d1_31 : decode prog_35_method_2_code 31 = .ok (.ldc 9, 2) := by decide +kernel
theorem d1_33 : decode prog_35_method_2_code 33 = .ok (.if_icmp .lt 13, 3) := by decide +kernel
theorem d1_46 : decode prog_35_method_2_code 46 = .ok (.iconst 0, 1) := by decide +kernel
theorem d1_36 : decode prog_35_method_2_code 36 = .ok (.iload_n 0, 1) := by decide +kernel
theorem d1_37 : decode prog_35_method_2_code 37 = .ok (.ldc 10, 2) := by decide +kernel
theorem d1_39 : decode prog_35_method_2_code 39 = .ok (.if_icmp .gt 7, 3) := by decide +kernel
theorem d1_42 : decode prog_35_method_2_code 42 = .ok (.iconst 1, 1) := by decide +kernel
theorem d1_43 : decode prog_35_method_2_code 43 = .ok (.goto 4, 3) := by decide +kernel
theorem d1_47 : decode prog_35_method_2_code 47 = .ok (.istore_n 1, 1) := by decide +kernel
theorem d1_48 : decode prog_35_method_2_code 48 = .ok (.iload_n 1, 1) := by decide +kernel
theorem d1_49 : decode prog_35_method_2_code 49 = .ok (.ifCond .ne 19, 3) := by decide +kernel
theorem d1_52 : decode prog_35_method_2_code 52 = .ok (.iload_n 0, 1) := by decide +kernel
theorem d1_53 : decode prog_35_method_2_code 53 = .ok (.ldc 11, 2) := by decide +kernel
theorem d1_55 : decode prog_35_method_2_code 55 = .ok (.if_icmp .eq 13, 3) := by decide +kernel
theorem d1_68 : decode prog_35_method_2_code 68 = .ok (.iconst 0, 1) := by decide +kernel
theorem d1_69 : decode prog_35_method_2_code 69 = .ok (.ireturn, 1) := by decide +kernel
theorem d1_58 : decode prog_35_method_2_code 58 = .ok (.iload_n 0, 1) := by decide +kernel
theorem d1_59 : decode prog_35_method_2_code 59 = .ok (.ldc 12, 2) := by decide +kernel
theorem d1_61 : decode prog_35_method_2_code 61 = .ok (.if_icmp .eq 7, 3) := by decide +kernel
theorem d1_64 : decode prog_35_method_2_code 64 = .ok (.iconst 1, 1) := by decide +kernel
theorem d1_65 : decode prog_35_method_2_code 65 = .ok (.goto 4, 3) := by decide +kernel
theorem ef_1 (m : MethodId) (p1 : Int32) : entryFrame m #[(.int p1)] 2 = mkF m 0 #[.val (.int p1), .unset] [] := by first | (simp [entryFrame, mkF, argsToLocals, Value.category]; done) | rfl
theorem pn_0 : plainName "com/example/tightwire/tightwire/core/XmlChars" = true := by first | (simp [plainName, overriddenIn]; done) | decide +kernel
def f1 (p1 : Int32) : Int32 := (if p1 < (32 : Int32) then (if p1 = (9 : Int32) then (1 : Int32) else (if p1 = (10 : Int32) then (1 : Int32) else (if p1 = (13 : Int32) then (1 : Int32) else (0 : Int32)))) else (if (if p1 < (55296 : Int32) then (0 : Int32) else (if (57343 : Int32) < p1 then (0 : Int32) else (1 : Int32))) = (0 : Int32) then (if p1 = (65534 : Int32) then (0 : Int32) else (if p1 = (65535 : Int32) then (0 : Int32) else (1 : Int32))) else (0 : Int32)))
set_option maxRecDepth 65536 in
set_option maxHeartbeats 40000000 in
theorem rm1 (l : Launch) (Z : State) (a0 : Array Value) (hw : ∀ d ∈ tables_1, d.before a0 Z = true) (ws : List Jvm.Cond) (p1 : Int32) (h0 : Heap) (n0 : Nat) (Z0 : n0 ≤ h0.size) :
    MetFree l (⟨"com/example/tightwire/tightwire/core/XmlChars", "allows", "(I)Z"⟩ : MethodName) (head1 (Jvm.Cond.code (⟨"com/example/tightwire/tightwire/core/XmlChars", "allows", "(I)Z"⟩ : MethodName) prog_35_method_2_code 2 (some .boolean) :: ws) ({ frames := 0, cells := 0, slots := 0, locals := 0 } : Room)) (fun a U => a = #[(.int p1)] ∧ Z.Warmed39 U.vm ∧ U.heap = h0) (fun _ _ _ _ _ => True) (fun _ U o U' => ∃ v L, o = .returned v ∧ QP (.int (f1 p1)) h0 n0 v U'.heap L ∧ FrameEnd U o U' L ({ frames := 0, cells := 0, slots := 0, locals := 0 } : Room).cells ({ frames := 0, cells := 0, slots := 0, locals := 0 } : Room).slots) := by
  refine MetFree.of_bodySF (plainFor_of_name pn_0) hisR ?_
  intro p e s m args below meth c s₁ Bd hml0 hP hK
  obtain ⟨rfl, hZ, hh⟩ := hP
  have hx := Bd.exec
  have hby := Bd.bytes
  have hml : c.maxLocals = 2 := hml0
  have hown : s.vm.findClass "com/example/tightwire/tightwire/core/XmlChars" = some m.cls := findClass_of_methodNamed Bd.named
  have hnm := (name_of_methodNamed Bd.named Bd.method).1
  have X0 : Stand p l e ({ frames := 0, cells := 0, slots := 0, locals := 0 } : Room) s m #[(.int p1)] below meth c s₁ [] 0 0 := Stand.of_body Bd
  have e0 : s₁.heap = h0 := by rw [← hh, Bd.state]; rfl
  have N0 := Fr.nil n0
  refine Go.done (Go.step (fun t k => castTop (ef_1 m p1) k) ?_)
  show Go p e below _ (s₁.setTop (mkF m 0 #[.val (.int p1), .unset] []))
  refine Go.step (fun t k => XS.iloadN X0.here hx rfl (hb hby d1_0) rfl k) ?_
  show Go p e below _ (s₁.setTop (mkF m 1 #[.val (.int p1), .unset] [(.int p1)]))
  refine Go.step (fun t k => XS.bipush X0.here hx rfl (hb hby d1_1)  k) ?_
  show Go p e below _ (s₁.setTop (mkF m 3 #[.val (.int p1), .unset] [(.int (32 : Int32)), (.int p1)]))
  by_cases hc2 : p1 < (32 : Int32)
  · refine Go.step (fun t k => XS.icmpNo X0.here hx rfl (hb hby d1_3) rfl (tlt hc2).2.1 k) ?_
    show Go p e below _ (s₁.setTop (mkF m 6 #[.val (.int p1), .unset] []))
    refine Go.step (fun t k => XS.iloadN X0.here hx rfl (hb hby d1_6) rfl k) ?_
    show Go p e below _ (s₁.setTop (mkF m 7 #[.val (.int p1), .unset] [(.int p1)]))
    refine Go.step (fun t k => XS.bipush X0.here hx rfl (hb hby d1_7)  k) ?_
    show Go p e below _ (s₁.setTop (mkF m 9 #[.val (.int p1), .unset] [(.int (9 : Int32)), (.int p1)]))
    by_cases hc3 : p1 = (9 : Int32)
    · refine Go.step (fun t k => XS.icmpYes X0.here hx rfl (pc0 := 9) (pc' := 24) rfl (hb hby d1_9) rfl (teq hc3).1 (by decide) (by decide) k) ?_
      show Go p e below _ (s₁.setTop (mkF m 24 #[.val (.int p1), .unset] []))
      refine Go.step (fun t k => XS.iconst X0.here hx rfl (hb hby d1_24)  k) ?_
      show Go p e below _ (s₁.setTop (mkF m 25 #[.val (.int p1), .unset] [(.int (1 : Int32))]))
      refine Go.step (fun t k => XS.goto X0.here hx rfl (pc0 := 25) (pc' := 29) rfl (hb hby d1_25) (by decide) (by decide) k) ?_
      show Go p e below _ (s₁.setTop (mkF m 29 #[.val (.int p1), .unset] [(.int (1 : Int32))]))
      exact retGN X0 hx Bd.notSynchronized Bd.returns (t := .boolean) (by simp) (z' := (1 : Int32)) rfl (hb hby d1_29) ⟨by first | (simp only [f1, if_pos hc2, if_pos hc3]; done) | rfl | (simp [f1, if_pos hc2, if_pos hc3]; done), N0, e0⟩ (by decide) (by decide)
    · refine Go.step (fun t k => XS.icmpNo X0.here hx rfl (hb hby d1_9) rfl (feq hc3).1 k) ?_
      show Go p e below _ (s₁.setTop (mkF m 12 #[.val (.int p1), .unset] []))
      refine Go.step (fun t k => XS.iloadN X0.here hx rfl (hb hby d1_12) rfl k) ?_
      show Go p e below _ (s₁.setTop (mkF m 13 #[.val (.int p1), .unset] [(.int p1)]))
      refine Go.step (fun t k => XS.bipush X0.here hx rfl (hb hby d1_13)  k) ?_
      show Go p e below _ (s₁.setTop (mkF m 15 #[.val (.int p1), .unset] [(.int (10 : Int32)), (.int p1)]))
      by_cases hc4 : p1 = (10 : Int32)
      · refine Go.step (fun t k => XS.icmpYes X0.here hx rfl (pc0 := 15) (pc' := 24) rfl (hb hby d1_15) rfl (teq hc4).1 (by decide) (by decide) k) ?_
        show Go p e below _ (s₁.setTop (mkF m 24 #[.val (.int p1), .unset] []))
        refine Go.step (fun t k => XS.iconst X0.here hx rfl (hb hby d1_24)  k) ?_
        show Go p e below _ (s₁.setTop (mkF m 25 #[.val (.int p1), .unset] [(.int (1 : Int32))]))
        refine Go.step (fun t k => XS.goto X0.here hx rfl (pc0 := 25) (pc' := 29) rfl (hb hby d1_25) (by decide) (by decide) k) ?_
        show Go p e below _ (s₁.setTop (mkF m 29 #[.val (.int p1), .unset] [(.int (1 : Int32))]))
        exact retGN X0 hx Bd.notSynchronized Bd.returns (t := .boolean) (by simp) (z' := (1 : Int32)) rfl (hb hby d1_29) ⟨by first | (simp only [f1, if_pos hc2, if_neg hc3, if_pos hc4]; done) | rfl | (simp [f1, if_pos hc2, if_neg hc3, if_pos hc4]; done), N0, e0⟩ (by decide) (by decide)
      · refine Go.step (fun t k => XS.icmpNo X0.here hx rfl (hb hby d1_15) rfl (feq hc4).1 k) ?_
        show Go p e below _ (s₁.setTop (mkF m 18 #[.val (.int p1), .unset] []))
        refine Go.step (fun t k => XS.iloadN X0.here hx rfl (hb hby d1_18) rfl k) ?_
        show Go p e below _ (s₁.setTop (mkF m 19 #[.val (.int p1), .unset] [(.int p1)]))
        refine Go.step (fun t k => XS.bipush X0.here hx rfl (hb hby d1_19)  k) ?_
        show Go p e below _ (s₁.setTop (mkF m 21 #[.val (.int p1), .unset] [(.int (13 : Int32)), (.int p1)]))
        by_cases hc5 : p1 = (13 : Int32)
        · refine Go.step (fun t k => XS.icmpNo X0.here hx rfl (hb hby d1_21) rfl (teq hc5).2 k) ?_
          show Go p e below _ (s₁.setTop (mkF m 24 #[.val (.int p1), .unset] []))
          refine Go.step (fun t k => XS.iconst X0.here hx rfl (hb hby d1_24)  k) ?_
          show Go p e below _ (s₁.setTop (mkF m 25 #[.val (.int p1), .unset] [(.int (1 : Int32))]))
          refine Go.step (fun t k => XS.goto X0.here hx rfl (pc0 := 25) (pc' := 29) rfl (hb hby d1_25) (by decide) (by decide) k) ?_
          show Go p e below _ (s₁.setTop (mkF m 29 #[.val (.int p1), .unset] [(.int (1 : Int32))]))
          exact retGN X0 hx Bd.notSynchronized Bd.returns (t := .boolean) (by simp) (z' := (1 : Int32)) rfl (hb hby d1_29) ⟨by first | (simp only [f1, if_pos hc2, if_neg hc3, if_neg hc4, if_pos hc5]; done) | rfl | (simp [f1, if_pos hc2, if_neg hc3, if_neg hc4, if_pos hc5]; done), N0, e0⟩ (by decide) (by decide)
        · refine Go.step (fun t k => XS.icmpYes X0.here hx rfl (pc0 := 21) (pc' := 28) rfl (hb hby d1_21) rfl (feq hc5).2 (by decide) (by decide) k) ?_
          show Go p e below _ (s₁.setTop (mkF m 28 #[.val (.int p1), .unset] []))
          refine Go.step (fun t k => XS.iconst X0.here hx rfl (hb hby d1_28)  k) ?_
          show Go p e below _ (s₁.setTop (mkF m 29 #[.val (.int p1), .unset] [(.int (0 : Int32))]))
          exact retGN X0 hx Bd.notSynchronized Bd.returns (t := .boolean) (by simp) (z' := (0 : Int32)) rfl (hb hby d1_29) ⟨by first | (simp only [f1, if_pos hc2, if_neg hc3, if_neg hc4, if_neg hc5]; done) | rfl | (simp [f1, if_pos hc2, if_neg hc3, if_neg hc4, if_neg hc5]; done), N0, e0⟩ (by decide) (by decide)
  · refine Go.step (fun t k => XS.icmpYes X0.here hx rfl (pc0 := 3) (pc' := 30) rfl (hb hby d1_3) rfl (flt hc2).2.1 (by decide) (by decide) k) ?_
    show Go p e below _ (s₁.setTop (mkF m 30 #[.val (.int p1), .unset] []))
    refine Go.step (fun t k => XS.iloadN X0.here hx rfl (hb hby d1_30) rfl k) ?_
    show Go p e below _ (s₁.setTop (mkF m 31 #[.val (.int p1), .unset] [(.int p1)]))
    refine Go.step (X0.ldcInt hx hown (mvT hZ (hw _ (List.mem_of_getElem? (i := 12) rfl))) (g := (mkF m 31 #[.val (.int p1), .unset] [(.int p1)])) rfl (hb hby d1_31)) ?_
    show Go p e below _ (s₁.setTop (mkF m 33 #[.val (.int p1), .unset] [(.int (55296 : Int32)), (.int p1)]))
    obtain ⟨v8, hv8⟩ : ∃ z : Int32, z = (if p1 < (55296 : Int32) then (0 : Int32) else (if (57343 : Int32) < p1 then (0 : Int32) else (1 : Int32))) := ⟨_, rfl⟩
    have J33 : Go p e below (AtF p l e ({ frames := 0, cells := 0, slots := 0, locals := 0 } : Room) s m #[(.int p1)] below meth c n0 0 0 h0 (mkF m 47 #[.val (.int p1), .unset] [(.int v8)])) (s₁.setTop (mkF m 33 #[.val (.int p1), .unset] [(.int (55296 : Int32)), (.int p1)])) := by
      by_cases hc6 : p1 < (55296 : Int32)
      · refine Go.step (fun t k => XS.icmpYes X0.here hx rfl (pc0 := 33) (pc' := 46) rfl (hb hby d1_33) rfl (tlt hc6).1 (by decide) (by decide) k) ?_
        show Go p e below _ (s₁.setTop (mkF m 46 #[.val (.int p1), .unset] []))
        refine Go.step (fun t k => XS.iconst X0.here hx rfl (hb hby d1_46)  k) ?_
        show Go p e below _ (s₁.setTop (mkF m 47 #[.val (.int p1), .unset] [(.int (0 : Int32))]))
        exact Go.here ⟨_, _, by simp only [hv8, if_pos hc6], X0, N0, e0⟩
      · refine Go.step (fun t k => XS.icmpNo X0.here hx rfl (hb hby d1_33) rfl (flt hc6).1 k) ?_
        show Go p e below _ (s₁.setTop (mkF m 36 #[.val (.int p1), .unset] []))
        refine Go.step (fun t k => XS.iloadN X0.here hx rfl (hb hby d1_36) rfl k) ?_
        show Go p e below _ (s₁.setTop (mkF m 37 #[.val (.int p1), .unset] [(.int p1)]))
        refine Go.step (X0.ldcInt hx hown (mvT hZ (hw _ (List.mem_of_getElem? (i := 16) rfl))) (g := (mkF m 37 #[.val (.int p1), .unset] [(.int p1)])) rfl (hb hby d1_37)) ?_
        show Go p e below _ (s₁.setTop (mkF m 39 #[.val (.int p1), .unset] [(.int (57343 : Int32)), (.int p1)]))
        by_cases hc7 : (57343 : Int32) < p1
        · refine Go.step (fun t k => XS.icmpYes X0.here hx rfl (pc0 := 39) (pc' := 46) rfl (hb hby d1_39) rfl (tlt hc7).2.2.1 (by decide) (by decide) k) ?_
          show Go p e below _ (s₁.setTop (mkF m 46 #[.val (.int p1), .unset] []))
          refine Go.step (fun t k => XS.iconst X0.here hx rfl (hb hby d1_46)  k) ?_
          show Go p e below _ (s₁.setTop (mkF m 47 #[.val (.int p1), .unset] [(.int (0 : Int32))]))
          exact Go.here ⟨_, _, by simp only [hv8, if_neg hc6, if_pos hc7], X0, N0, e0⟩
        · refine Go.step (fun t k => XS.icmpNo X0.here hx rfl (hb hby d1_39) rfl (flt hc7).2.2.1 k) ?_
          show Go p e below _ (s₁.setTop (mkF m 42 #[.val (.int p1), .unset] []))
          refine Go.step (fun t k => XS.iconst X0.here hx rfl (hb hby d1_42)  k) ?_
          show Go p e below _ (s₁.setTop (mkF m 43 #[.val (.int p1), .unset] [(.int (1 : Int32))]))
          refine Go.step (fun t k => XS.goto X0.here hx rfl (pc0 := 43) (pc' := 47) rfl (hb hby d1_43) (by decide) (by decide) k) ?_
          show Go p e below _ (s₁.setTop (mkF m 47 #[.val (.int p1), .unset] [(.int (1 : Int32))]))
          exact Go.here ⟨_, _, by simp only [hv8, if_neg hc6, if_neg hc7], X0, N0, e0⟩
    obtain ⟨_, st9, T9, Lj9, rfl, X9, N9, e9⟩ := J33
    refine Go.trans st9 ?_
    show Go p e below _ (T9.setTop (mkF m 47 #[.val (.int p1), .unset] [(.int v8)]))
    refine Go.step (fun t k => XS.istoreN X9.here hx rfl (hb hby d1_47) rfl (l' := #[.val (.int p1), .val (.int v8)]) rfl k) ?_
    show Go p e below _ (T9.setTop (mkF m 48 #[.val (.int p1), .val (.int v8)] []))
    refine Go.step (fun t k => XS.iloadN X9.here hx rfl (hb hby d1_48) rfl k) ?_
    show Go p e below _ (T9.setTop (mkF m 49 #[.val (.int p1), .val (.int v8)] [(.int v8)]))
    by_cases hc10 : v8 = (0 : Int32)
    · refine Go.step (fun t k => XS.ifNo X9.here hx rfl (hb hby d1_49) rfl ((if0 _ _).trans (teq hc10).2) k) ?_
      show Go p e below _ (T9.setTop (mkF m 52 #[.val (.int p1), .val (.int v8)] []))
      refine Go.step (fun t k => XS.iloadN X9.here hx rfl (hb hby d1_52) rfl k) ?_
      show Go p e below _ (T9.setTop (mkF m 53 #[.val (.int p1), .val (.int v8)] [(.int p1)]))
      refine Go.step (X9.ldcInt hx hown (mvT hZ (hw _ (List.mem_of_getElem? (i := 13) rfl))) (g := (mkF m 53 #[.val (.int p1), .val (.int v8)] [(.int p1)])) rfl (hb hby d1_53)) ?_
      show Go p e below _ (T9.setTop (mkF m 55 #[.val (.int p1), .val (.int v8)] [(.int (65534 : Int32)), (.int p1)]))
      by_cases hc11 : p1 = (65534 : Int32)
      · refine Go.step (fun t k => XS.icmpYes X9.here hx rfl (pc0 := 55) (pc' := 68) rfl (hb hby d1_55) rfl (teq hc11).1 (by decide) (by decide) k) ?_
        show Go p e below _ (T9.setTop (mkF m 68 #[.val (.int p1), .val (.int v8)] []))
        refine Go.step (fun t k => XS.iconst X9.here hx rfl (hb hby d1_68)  k) ?_
        show Go p e below _ (T9.setTop (mkF m 69 #[.val (.int p1), .val (.int v8)] [(.int (0 : Int32))]))
        subst hv8
        exact retGN X9 hx Bd.notSynchronized Bd.returns (t := .boolean) (by simp) (z' := (0 : Int32)) rfl (hb hby d1_69) ⟨by first | (simp only [f1, if_neg hc2, if_pos hc10, if_pos hc11]; done) | rfl | (simp [f1, if_neg hc2, if_pos hc10, if_pos hc11]; done), N9, e9⟩ (by decide) (by decide)
      · refine Go.step (fun t k => XS.icmpNo X9.here hx rfl (hb hby d1_55) rfl (feq hc11).1 k) ?_
        show Go p e below _ (T9.setTop (mkF m 58 #[.val (.int p1), .val (.int v8)] []))
        refine Go.step (fun t k => XS.iloadN X9.here hx rfl (hb hby d1_58) rfl k) ?_
        show Go p e below _ (T9.setTop (mkF m 59 #[.val (.int p1), .val (.int v8)] [(.int p1)]))
        refine Go.step (X9.ldcInt hx hown (mvT hZ (hw _ (List.mem_of_getElem? (i := 14) rfl))) (g := (mkF m 59 #[.val (.int p1), .val (.int v8)] [(.int p1)])) rfl (hb hby d1_59)) ?_
        show Go p e below _ (T9.setTop (mkF m 61 #[.val (.int p1), .val (.int v8)] [(.int (65535 : Int32)), (.int p1)]))
        by_cases hc12 : p1 = (65535 : Int32)
        · refine Go.step (fun t k => XS.icmpYes X9.here hx rfl (pc0 := 61) (pc' := 68) rfl (hb hby d1_61) rfl (teq hc12).1 (by decide) (by decide) k) ?_
          show Go p e below _ (T9.setTop (mkF m 68 #[.val (.int p1), .val (.int v8)] []))
          refine Go.step (fun t k => XS.iconst X9.here hx rfl (hb hby d1_68)  k) ?_
          show Go p e below _ (T9.setTop (mkF m 69 #[.val (.int p1), .val (.int v8)] [(.int (0 : Int32))]))
          subst hv8
          exact retGN X9 hx Bd.notSynchronized Bd.returns (t := .boolean) (by simp) (z' := (0 : Int32)) rfl (hb hby d1_69) ⟨by first | (simp only [f1, if_neg hc2, if_pos hc10, if_neg hc11, if_pos hc12]; done) | rfl | (simp [f1, if_neg hc2, if_pos hc10, if_neg hc11, if_pos hc12]; done), N9, e9⟩ (by decide) (by decide)
        · refine Go.step (fun t k => XS.icmpNo X9.here hx rfl (hb hby d1_61) rfl (feq hc12).1 k) ?_
          show Go p e below _ (T9.setTop (mkF m 64 #[.val (.int p1), .val (.int v8)] []))
          refine Go.step (fun t k => XS.iconst X9.here hx rfl (hb hby d1_64)  k) ?_
          show Go p e below _ (T9.setTop (mkF m 65 #[.val (.int p1), .val (.int v8)] [(.int (1 : Int32))]))
          refine Go.step (fun t k => XS.goto X9.here hx rfl (pc0 := 65) (pc' := 69) rfl (hb hby d1_65) (by decide) (by decide) k) ?_
          show Go p e below _ (T9.setTop (mkF m 69 #[.val (.int p1), .val (.int v8)] [(.int (1 : Int32))]))
          subst hv8
          exact retGN X9 hx Bd.notSynchronized Bd.returns (t := .boolean) (by simp) (z' := (1 : Int32)) rfl (hb hby d1_69) ⟨by first | (simp only [f1, if_neg hc2, if_pos hc10, if_neg hc11, if_neg hc12]; done) | rfl | (simp [f1, if_neg hc2, if_pos hc10, if_neg hc11, if_neg hc12]; done), N9, e9⟩ (by decide) (by decide)
    · refine Go.step (fun t k => XS.ifYes X9.here hx rfl (pc0 := 49) (pc' := 68) rfl (hb hby d1_49) rfl ((if0 _ _).trans (feq hc10).2) (by decide) (by decide) k) ?_
      show Go p e below _ (T9.setTop (mkF m 68 #[.val (.int p1), .val (.int v8)] []))
      refine Go.step (fun t k => XS.iconst X9.here hx rfl (hb hby d1_68)  k) ?_
      show Go p e below _ (T9.setTop (mkF m 69 #[.val (.int p1), .val (.int v8)] [(.int (0 : Int32))]))
      subst hv8
      exact retGN X9 hx Bd.notSynchronized Bd.returns (t := .boolean) (by simp) (z' := (0 : Int32)) rfl (hb hby d1_69) ⟨by first | (simp only [f1, if_neg hc2, if_neg hc10]; done) | rfl | (simp [f1, if_neg hc2, if_neg hc10]; done), N9, e9⟩ (by decide) (by decide)
theorem d2_0 : decode method_2_code 0 = .ok (.iload_n 0, 1) := by decide +kernel
theorem d2_1 : decode method_2_code 1 = .ok (.bipush 9, 2) := by decide +kernel
theorem d2_3 : decode method_2_code 3 = .ok (.if_icmp .eq 15, 3) := by decide +kernel
theorem d2_18 : decode method_2_code 18 = .ok (.iconst 1, 1) := by decide +kernel
theorem d2_19 : decode method_2_code 19 = .ok (.ireturn, 1) := by decide +kernel
theorem d2_6 : decode method_2_code 6 = .ok (.iload_n 0, 1) := by decide +kernel
theorem d2_7 : decode method_2_code 7 = .ok (.bipush 10, 2) := by decide +kernel
theorem d2_9 : decode method_2_code 9 = .ok (.if_icmp .eq 9, 3) := by decide +kernel
theorem d2_12 : decode method_2_code 12 = .ok (.iload_n 0, 1) := by decide +kernel
theorem d2_13 : decode method_2_code 13 = .ok (.bipush 13, 2) := by decide +kernel
theorem d2_15 : decode method_2_code 15 = .ok (.if_icmp .ne 5, 3) := by decide +kernel
theorem d2_20 : decode method_2_code 20 = .ok (.iload_n 0, 1) := by decide +kernel
theorem d2_21 : decode method_2_code 21 = .ok (.bipush 32, 2) := by decide +kernel
theorem d2_23 : decode method_2_code 23 = .ok (.if_icmp .lt 11, 3) := by decide +kernel
theorem d2_34 : decode method_2_code 34 = .ok (.iload_n 0, 1) := by decide +kernel
theorem d2_35 : decode method_2_code 35 = .ok (.ldc 8, 2) := by decide +kernel
theorem d2_37 : decode method_2_code 37 = .ok (.if_icmp .lt 11, 3) := by decide +kernel
theorem d2_48 : decode method_2_code 48 = .ok (.iload_n 0, 1) := by decide +kernel
theorem d2_49 : decode method_2_code 49 = .ok (.ldc 10, 2) := by decide +kernel
theorem d2_51 : decode method_2_code 51 = .ok (.if_icmp .lt 13, 3) := by decide +kernel
theorem d2_64 : decode method_2_code 64 = .ok (.iconst 0, 1) := by decide +kernel
theorem d2_65 : decode method_2_code 65 = .ok (.ireturn, 1) := by decide +kernel
theorem d2_54 : decode method_2_code 54 = .ok (.iload_n 0, 1) := by decide +kernel
theorem d2_55 : decode method_2_code 55 = .ok (.ldc 11, 2) := by decide +kernel
theorem d2_57 : decode method_2_code 57 = .ok (.if_icmp .gt 7, 3) := by decide +kernel
theorem d2_60 : decode method_2_code 60 = .ok (.iconst 1, 1) := by decide +kernel
theorem d2_61 : decode method_2_code 61 = .ok (.goto 4, 3) := by decide +kernel
theorem d2_40 : decode method_2_code 40 = .ok (.iload_n 0, 1) := by decide +kernel
theorem d2_41 : decode method_2_code 41 = .ok (.ldc 9, 2) := by decide +kernel
theorem d2_43 : decode method_2_code 43 = .ok (.if_icmp .gt 5, 3) := by decide +kernel
theorem d2_46 : decode method_2_code 46 = .ok (.iconst 1, 1) := by decide +kernel
theorem d2_47 : decode method_2_code 47 = .ok (.ireturn, 1) := by decide +kernel
theorem d2_26 : decode method_2_code 26 = .ok (.iload_n 0, 1) := by decide +kernel
theorem d2_27 : decode method_2_code 27 = .ok (.ldc 7, 2) := by decide +kernel
theorem d2_29 : decode method_2_code 29 = .ok (.if_icmp .gt 5, 3) := by decide +kernel
theorem d2_32 : decode method_2_code 32 = .ok (.iconst 1, 1) := by decide +kernel
theorem d2_33 : decode method_2_code 33 = .ok (.ireturn, 1) := by decide +kernel
theorem ef_2 (m : MethodId) (p1 : Int32) : entryFrame m #[(.int p1)] 1 = mkF m 0 #[.val (.int p1)] [] := by first | (simp [entryFrame, mkF, argsToLocals, Value.category]; done) | rfl
theorem pn_1 : plainName "com/example/tightwire/tightwire/core/XmlCharsAllowsPinLaw" = true := by first | (simp [plainName, overriddenIn]; done) | decide +kernel
def f2 (p1 : Int32) : Int32 := (if p1 = (9 : Int32) then (1 : Int32) else (if p1 = (10 : Int32) then (1 : Int32) else (if p1 = (13 : Int32) then (1 : Int32) else (if p1 < (32 : Int32) then (if p1 < (57344 : Int32) then (if p1 < (65536 : Int32) then (0 : Int32) else (if (1114111 : Int32) < p1 then (0 : Int32) else (1 : Int32))) else (if (65533 : Int32) < p1 then (if p1 < (65536 : Int32) then (0 : Int32) else (if (1114111 : Int32) < p1 then (0 : Int32) else (1 : Int32))) else (1 : Int32))) else (if (55295 : Int32) < p1 then (if p1 < (57344 : Int32) then (if p1 < (65536 : Int32) then (0 : Int32) else (if (1114111 : Int32) < p1 then (0 : Int32) else (1 : Int32))) else (if (65533 : Int32) < p1 then (if p1 < (65536 : Int32) then (0 : Int32) else (if (1114111 : Int32) < p1 then (0 : Int32) else (1 : Int32))) else (1 : Int32))) else (1 : Int32))))))
set_option maxRecDepth 65536 in
set_option maxHeartbeats 40000000 in
theorem rm2 (l : Launch) (Z : State) (a0 : Array Value) (hw : ∀ d ∈ tables_1, d.before a0 Z = true) (ws : List Jvm.Cond) (p1 : Int32) (h0 : Heap) (n0 : Nat) (Z0 : n0 ≤ h0.size) :
    MetFree l (⟨"com/example/tightwire/tightwire/core/XmlCharsAllowsPinLaw", "xmlChar", "(I)Z"⟩ : MethodName) (head1 (Jvm.Cond.code (⟨"com/example/tightwire/tightwire/core/XmlCharsAllowsPinLaw", "xmlChar", "(I)Z"⟩ : MethodName) method_2_code 1 (some .boolean) :: ws) ({ frames := 0, cells := 0, slots := 0, locals := 0 } : Room)) (fun a U => a = #[(.int p1)] ∧ Z.Warmed39 U.vm ∧ U.heap = h0) (fun _ _ _ _ _ => True) (fun _ U o U' => ∃ v L, o = .returned v ∧ QP (.int (f2 p1)) h0 n0 v U'.heap L ∧ FrameEnd U o U' L ({ frames := 0, cells := 0, slots := 0, locals := 0 } : Room).cells ({ frames := 0, cells := 0, slots := 0, locals := 0 } : Room).slots) := by
  refine MetFree.of_bodySF (plainFor_of_name pn_1) hisR ?_
  intro p e s m args below meth c s₁ Bd hml0 hP hK
  obtain ⟨rfl, hZ, hh⟩ := hP
  have hx := Bd.exec
  have hby := Bd.bytes
  have hml : c.maxLocals = 1 := hml0
  have hown : s.vm.findClass "com/example/tightwire/tightwire/core/XmlCharsAllowsPinLaw" = some m.cls := findClass_of_methodNamed Bd.named
  have hnm := (name_of_methodNamed Bd.named Bd.method).1
  have X0 : Stand p l e ({ frames := 0, cells := 0, slots := 0, locals := 0 } : Room) s m #[(.int p1)] below meth c s₁ [] 0 0 := Stand.of_body Bd
  have e0 : s₁.heap = h0 := by rw [← hh, Bd.state]; rfl
  have N0 := Fr.nil n0
  refine Go.done (Go.step (fun t k => castTop (ef_2 m p1) k) ?_)
  show Go p e below _ (s₁.setTop (mkF m 0 #[.val (.int p1)] []))
  refine Go.step (fun t k => XS.iloadN X0.here hx rfl (hb hby d2_0) rfl k) ?_
  show Go p e below _ (s₁.setTop (mkF m 1 #[.val (.int p1)] [(.int p1)]))
  refine Go.step (fun t k => XS.bipush X0.here hx rfl (hb hby d2_1)  k) ?_
  show Go p e below _ (s₁.setTop (mkF m 3 #[.val (.int p1)] [(.int (9 : Int32)), (.int p1)]))
  by_cases hc2 : p1 = (9 : Int32)
  · refine Go.step (fun t k => XS.icmpYes X0.here hx rfl (pc0 := 3) (pc' := 18) rfl (hb hby d2_3) rfl (teq hc2).1 (by decide) (by decide) k) ?_
    show Go p e below _ (s₁.setTop (mkF m 18 #[.val (.int p1)] []))
    refine Go.step (fun t k => XS.iconst X0.here hx rfl (hb hby d2_18)  k) ?_
    show Go p e below _ (s₁.setTop (mkF m 19 #[.val (.int p1)] [(.int (1 : Int32))]))
    exact retGN X0 hx Bd.notSynchronized Bd.returns (t := .boolean) (by simp) (z' := (1 : Int32)) rfl (hb hby d2_19) ⟨by first | (simp only [f2, if_pos hc2]; done) | rfl | (simp [f2, if_pos hc2]; done), N0, e0⟩ (by decide) (by decide)
  · refine Go.step (fun t k => XS.icmpNo X0.here hx rfl (hb hby d2_3) rfl (feq hc2).1 k) ?_
    show Go p e below _ (s₁.setTop (mkF m 6 #[.val (.int p1)] []))
    refine Go.step (fun t k => XS.iloadN X0.here hx rfl (hb hby d2_6) rfl k) ?_
    show Go p e below _ (s₁.setTop (mkF m 7 #[.val (.int p1)] [(.int p1)]))
    refine Go.step (fun t k => XS.bipush X0.here hx rfl (hb hby d2_7)  k) ?_
    show Go p e below _ (s₁.setTop (mkF m 9 #[.val (.int p1)] [(.int (10 : Int32)), (.int p1)]))
    by_cases hc3 : p1 = (10 : Int32)
    · refine Go.step (fun t k => XS.icmpYes X0.here hx rfl (pc0 := 9) (pc' := 18) rfl (hb hby d2_9) rfl (teq hc3).1 (by decide) (by decide) k) ?_
      show Go p e below _ (s₁.setTop (mkF m 18 #[.val (.int p1)] []))
      refine Go.step (fun t k => XS.iconst X0.here hx rfl (hb hby d2_18)  k) ?_
      show Go p e below _ (s₁.setTop (mkF m 19 #[.val (.int p1)] [(.int (1 : Int32))]))
      exact retGN X0 hx Bd.notSynchronized Bd.returns (t := .boolean) (by simp) (z' := (1 : Int32)) rfl (hb hby d2_19) ⟨by first | (simp only [f2, if_neg hc2, if_pos hc3]; done) | rfl | (simp [f2, if_neg hc2, if_pos hc3]; done), N0, e0⟩ (by decide) (by decide)
    · refine Go.step (fun t k => XS.icmpNo X0.here hx rfl (hb hby d2_9) rfl (feq hc3).1 k) ?_
      show Go p e below _ (s₁.setTop (mkF m 12 #[.val (.int p1)] []))
      refine Go.step (fun t k => XS.iloadN X0.here hx rfl (hb hby d2_12) rfl k) ?_
      show Go p e below _ (s₁.setTop (mkF m 13 #[.val (.int p1)] [(.int p1)]))
      refine Go.step (fun t k => XS.bipush X0.here hx rfl (hb hby d2_13)  k) ?_
      show Go p e below _ (s₁.setTop (mkF m 15 #[.val (.int p1)] [(.int (13 : Int32)), (.int p1)]))
      by_cases hc4 : p1 = (13 : Int32)
      · refine Go.step (fun t k => XS.icmpNo X0.here hx rfl (hb hby d2_15) rfl (teq hc4).2 k) ?_
        show Go p e below _ (s₁.setTop (mkF m 18 #[.val (.int p1)] []))
        refine Go.step (fun t k => XS.iconst X0.here hx rfl (hb hby d2_18)  k) ?_
        show Go p e below _ (s₁.setTop (mkF m 19 #[.val (.int p1)] [(.int (1 : Int32))]))
        exact retGN X0 hx Bd.notSynchronized Bd.returns (t := .boolean) (by simp) (z' := (1 : Int32)) rfl (hb hby d2_19) ⟨by first | (simp only [f2, if_neg hc2, if_neg hc3, if_pos hc4]; done) | rfl | (simp [f2, if_neg hc2, if_neg hc3, if_pos hc4]; done), N0, e0⟩ (by decide) (by decide)
      · refine Go.step (fun t k => XS.icmpYes X0.here hx rfl (pc0 := 15) (pc' := 20) rfl (hb hby d2_15) rfl (feq hc4).2 (by decide) (by decide) k) ?_
        show Go p e below _ (s₁.setTop (mkF m 20 #[.val (.int p1)] []))
        refine Go.step (fun t k => XS.iloadN X0.here hx rfl (hb hby d2_20) rfl k) ?_
        show Go p e below _ (s₁.setTop (mkF m 21 #[.val (.int p1)] [(.int p1)]))
        refine Go.step (fun t k => XS.bipush X0.here hx rfl (hb hby d2_21)  k) ?_
        show Go p e below _ (s₁.setTop (mkF m 23 #[.val (.int p1)] [(.int (32 : Int32)), (.int p1)]))
        by_cases hc5 : p1 < (32 : Int32)
        · refine Go.step (fun t k => XS.icmpYes X0.here hx rfl (pc0 := 23) (pc' := 34) rfl (hb hby d2_23) rfl (tlt hc5).1 (by decide) (by decide) k) ?_
          show Go p e below _ (s₁.setTop (mkF m 34 #[.val (.int p1)] []))
          refine Go.step (fun t k => XS.iloadN X0.here hx rfl (hb hby d2_34) rfl k) ?_
          show Go p e below _ (s₁.setTop (mkF m 35 #[.val (.int p1)] [(.int p1)]))
          refine Go.step (X0.ldcInt hx hown (mvT hZ (hw _ (List.mem_of_getElem? (i := 10) rfl))) (g := (mkF m 35 #[.val (.int p1)] [(.int p1)])) rfl (hb hby d2_35)) ?_
          show Go p e below _ (s₁.setTop (mkF m 37 #[.val (.int p1)] [(.int (57344 : Int32)), (.int p1)]))
          by_cases hc6 : p1 < (57344 : Int32)
          · refine Go.step (fun t k => XS.icmpYes X0.here hx rfl (pc0 := 37) (pc' := 48) rfl (hb hby d2_37) rfl (tlt hc6).1 (by decide) (by decide) k) ?_
            show Go p e below _ (s₁.setTop (mkF m 48 #[.val (.int p1)] []))
            refine Go.step (fun t k => XS.iloadN X0.here hx rfl (hb hby d2_48) rfl k) ?_
            show Go p e below _ (s₁.setTop (mkF m 49 #[.val (.int p1)] [(.int p1)]))
            refine Go.step (X0.ldcInt hx hown (mvT hZ (hw _ (List.mem_of_getElem? (i := 11) rfl))) (g := (mkF m 49 #[.val (.int p1)] [(.int p1)])) rfl (hb hby d2_49)) ?_
            show Go p e below _ (s₁.setTop (mkF m 51 #[.val (.int p1)] [(.int (65536 : Int32)), (.int p1)]))
            by_cases hc7 : p1 < (65536 : Int32)
            · refine Go.step (fun t k => XS.icmpYes X0.here hx rfl (pc0 := 51) (pc' := 64) rfl (hb hby d2_51) rfl (tlt hc7).1 (by decide) (by decide) k) ?_
              show Go p e below _ (s₁.setTop (mkF m 64 #[.val (.int p1)] []))
              refine Go.step (fun t k => XS.iconst X0.here hx rfl (hb hby d2_64)  k) ?_
              show Go p e below _ (s₁.setTop (mkF m 65 #[.val (.int p1)] [(.int (0 : Int32))]))
              exact retGN X0 hx Bd.notSynchronized Bd.returns (t := .boolean) (by simp) (z' := (0 : Int32)) rfl (hb hby d2_65) ⟨by first | (simp only [f2, if_neg hc2, if_neg hc3, if_neg hc4, if_pos hc5, if_pos hc6, if_pos hc7]; done) | rfl | (simp [f2, if_neg hc2, if_neg hc3, if_neg hc4, if_pos hc5, if_pos hc6, if_pos hc7]; done), N0, e0⟩ (by decide) (by decide)
            · refine Go.step (fun t k => XS.icmpNo X0.here hx rfl (hb hby d2_51) rfl (flt hc7).1 k) ?_
              show Go p e below _ (s₁.setTop (mkF m 54 #[.val (.int p1)] []))
              refine Go.step (fun t k => XS.iloadN X0.here hx rfl (hb hby d2_54) rfl k) ?_
              show Go p e below _ (s₁.setTop (mkF m 55 #[.val (.int p1)] [(.int p1)]))
              refine Go.step (X0.ldcInt hx hown (mvT hZ (hw _ (List.mem_of_getElem? (i := 18) rfl))) (g := (mkF m 55 #[.val (.int p1)] [(.int p1)])) rfl (hb hby d2_55)) ?_
              show Go p e below _ (s₁.setTop (mkF m 57 #[.val (.int p1)] [(.int (1114111 : Int32)), (.int p1)]))
              by_cases hc8 : (1114111 : Int32) < p1
              · refine Go.step (fun t k => XS.icmpYes X0.here hx rfl (pc0 := 57) (pc' := 64) rfl (hb hby d2_57) rfl (tlt hc8).2.2.1 (by decide) (by decide) k) ?_
                show Go p e below _ (s₁.setTop (mkF m 64 #[.val (.int p1)] []))
                refine Go.step (fun t k => XS.iconst X0.here hx rfl (hb hby d2_64)  k) ?_
                show Go p e below _ (s₁.setTop (mkF m 65 #[.val (.int p1)] [(.int (0 : Int32))]))
                exact retGN X0 hx Bd.notSynchronized Bd.returns (t := .boolean) (by simp) (z' := (0 : Int32)) rfl (hb hby d2_65) ⟨by first | (simp only [f2, if_neg hc2, if_neg hc3, if_neg hc4, if_pos hc5, if_pos hc6, if_neg hc7, if_pos hc8]; done) | rfl | (simp [f2, if_neg hc2, if_neg hc3, if_neg hc4, if_pos hc5, if_pos hc6, if_neg hc7, if_pos hc8]; done), N0, e0⟩ (by decide) (by decide)
              · refine Go.step (fun t k => XS.icmpNo X0.here hx rfl (hb hby d2_57) rfl (flt hc8).2.2.1 k) ?_
                show Go p e below _ (s₁.setTop (mkF m 60 #[.val (.int p1)] []))
                refine Go.step (fun t k => XS.iconst X0.here hx rfl (hb hby d2_60)  k) ?_
                show Go p e below _ (s₁.setTop (mkF m 61 #[.val (.int p1)] [(.int (1 : Int32))]))
                refine Go.step (fun t k => XS.goto X0.here hx rfl (pc0 := 61) (pc' := 65) rfl (hb hby d2_61) (by decide) (by decide) k) ?_
                show Go p e below _ (s₁.setTop (mkF m 65 #[.val (.int p1)] [(.int (1 : Int32))]))
                exact retGN X0 hx Bd.notSynchronized Bd.returns (t := .boolean) (by simp) (z' := (1 : Int32)) rfl (hb hby d2_65) ⟨by first | (simp only [f2, if_neg hc2, if_neg hc3, if_neg hc4, if_pos hc5, if_pos hc6, if_neg hc7, if_neg hc8]; done) | rfl | (simp [f2, if_neg hc2, if_neg hc3, if_neg hc4, if_pos hc5, if_pos hc6, if_neg hc7, if_neg hc8]; done), N0, e0⟩ (by decide) (by decide)
          · refine Go.step (fun t k => XS.icmpNo X0.here hx rfl (hb hby d2_37) rfl (flt hc6).1 k) ?_
            show Go p e below _ (s₁.setTop (mkF m 40 #[.val (.int p1)] []))
            refine Go.step (fun t k => XS.iloadN X0.here hx rfl (hb hby d2_40) rfl k) ?_
            show Go p e below _ (s₁.setTop (mkF m 41 #[.val (.int p1)] [(.int p1)]))
            refine Go.step (X0.ldcInt hx hown (mvT hZ (hw _ (List.mem_of_getElem? (i := 17) rfl))) (g := (mkF m 41 #[.val (.int p1)] [(.int p1)])) rfl (hb hby d2_41)) ?_
            show Go p e below _ (s₁.setTop (mkF m 43 #[.val (.int p1)] [(.int (65533 : Int32)), (.int p1)]))
            by_cases hc9 : (65533 : Int32) < p1
            · refine Go.step (fun t k => XS.icmpYes X0.here hx rfl (pc0 := 43) (pc' := 48) rfl (hb hby d2_43) rfl (tlt hc9).2.2.1 (by decide) (by decide) k) ?_
              show Go p e below _ (s₁.setTop (mkF m 48 #[.val (.int p1)] []))
              refine Go.step (fun t k => XS.iloadN X0.here hx rfl (hb hby d2_48) rfl k) ?_
              show Go p e below _ (s₁.setTop (mkF m 49 #[.val (.int p1)] [(.int p1)]))
              refine Go.step (X0.ldcInt hx hown (mvT hZ (hw _ (List.mem_of_getElem? (i := 11) rfl))) (g := (mkF m 49 #[.val (.int p1)] [(.int p1)])) rfl (hb hby d2_49)) ?_
              show Go p e below _ (s₁.setTop (mkF m 51 #[.val (.int p1)] [(.int (65536 : Int32)), (.int p1)]))
              by_cases hc10 : p1 < (65536 : Int32)
              · refine Go.step (fun t k => XS.icmpYes X0.here hx rfl (pc0 := 51) (pc' := 64) rfl (hb hby d2_51) rfl (tlt hc10).1 (by decide) (by decide) k) ?_
                show Go p e below _ (s₁.setTop (mkF m 64 #[.val (.int p1)] []))
                refine Go.step (fun t k => XS.iconst X0.here hx rfl (hb hby d2_64)  k) ?_
                show Go p e below _ (s₁.setTop (mkF m 65 #[.val (.int p1)] [(.int (0 : Int32))]))
                exact retGN X0 hx Bd.notSynchronized Bd.returns (t := .boolean) (by simp) (z' := (0 : Int32)) rfl (hb hby d2_65) ⟨by first | (simp only [f2, if_neg hc2, if_neg hc3, if_neg hc4, if_pos hc5, if_neg hc6, if_pos hc9, if_pos hc10]; done) | rfl | (simp [f2, if_neg hc2, if_neg hc3, if_neg hc4, if_pos hc5, if_neg hc6, if_pos hc9, if_pos hc10]; done), N0, e0⟩ (by decide) (by decide)
              · refine Go.step (fun t k => XS.icmpNo X0.here hx rfl (hb hby d2_51) rfl (flt hc10).1 k) ?_
                show Go p e below _ (s₁.setTop (mkF m 54 #[.val (.int p1)] []))
                refine Go.step (fun t k => XS.iloadN X0.here hx rfl (hb hby d2_54) rfl k) ?_
                show Go p e below _ (s₁.setTop (mkF m 55 #[.val (.int p1)] [(.int p1)]))
                refine Go.step (X0.ldcInt hx hown (mvT hZ (hw _ (List.mem_of_getElem? (i := 18) rfl))) (g := (mkF m 55 #[.val (.int p1)] [(.int p1)])) rfl (hb hby d2_55)) ?_
                show Go p e below _ (s₁.setTop (mkF m 57 #[.val (.int p1)] [(.int (1114111 : Int32)), (.int p1)]))
                by_cases hc11 : (1114111 : Int32) < p1
                · refine Go.step (fun t k => XS.icmpYes X0.here hx rfl (pc0 := 57) (pc' := 64) rfl (hb hby d2_57) rfl (tlt hc11).2.2.1 (by decide) (by decide) k) ?_
                  show Go p e below _ (s₁.setTop (mkF m 64 #[.val (.int p1)] []))
                  refine Go.step (fun t k => XS.iconst X0.here hx rfl (hb hby d2_64)  k) ?_
                  show Go p e below _ (s₁.setTop (mkF m 65 #[.val (.int p1)] [(.int (0 : Int32))]))
                  exact retGN X0 hx Bd.notSynchronized Bd.returns (t := .boolean) (by simp) (z' := (0 : Int32)) rfl (hb hby d2_65) ⟨by first | (simp only [f2, if_neg hc2, if_neg hc3, if_neg hc4, if_pos hc5, if_neg hc6, if_pos hc9, if_neg hc10, if_pos hc11]; done) | rfl | (simp [f2, if_neg hc2, if_neg hc3, if_neg hc4, if_pos hc5, if_neg hc6, if_pos hc9, if_neg hc10, if_pos hc11]; done), N0, e0⟩ (by decide) (by decide)
                · refine Go.step (fun t k => XS.icmpNo X0.here hx rfl (hb hby d2_57) rfl (flt hc11).2.2.1 k) ?_
                  show Go p e below _ (s₁.setTop (mkF m 60 #[.val (.int p1)] []))
                  refine Go.step (fun t k => XS.iconst X0.here hx rfl (hb hby d2_60)  k) ?_
                  show Go p e below _ (s₁.setTop (mkF m 61 #[.val (.int p1)] [(.int (1 : Int32))]))
                  refine Go.step (fun t k => XS.goto X0.here hx rfl (pc0 := 61) (pc' := 65) rfl (hb hby d2_61) (by decide) (by decide) k) ?_
                  show Go p e below _ (s₁.setTop (mkF m 65 #[.val (.int p1)] [(.int (1 : Int32))]))
                  exact retGN X0 hx Bd.notSynchronized Bd.returns (t := .boolean) (by simp) (z' := (1 : Int32)) rfl (hb hby d2_65) ⟨by first | (simp only [f2, if_neg hc2, if_neg hc3, if_neg hc4, if_pos hc5, if_neg hc6, if_pos hc9, if_neg hc10, if_neg hc11]; done) | rfl | (simp [f2, if_neg hc2, if_neg hc3, if_neg hc4, if_pos hc5, if_neg hc6, if_pos hc9, if_neg hc10, if_neg hc11]; done), N0, e0⟩ (by decide) (by decide)
            · refine Go.step (fun t k => XS.icmpNo X0.here hx rfl (hb hby d2_43) rfl (flt hc9).2.2.1 k) ?_
              show Go p e below _ (s₁.setTop (mkF m 46 #[.val (.int p1)] []))
              refine Go.step (fun t k => XS.iconst X0.here hx rfl (hb hby d2_46)  k) ?_
              show Go p e below _ (s₁.setTop (mkF m 47 #[.val (.int p1)] [(.int (1 : Int32))]))
              exact retGN X0 hx Bd.notSynchronized Bd.returns (t := .boolean) (by simp) (z' := (1 : Int32)) rfl (hb hby d2_47) ⟨by first | (simp only [f2, if_neg hc2, if_neg hc3, if_neg hc4, if_pos hc5, if_neg hc6, if_neg hc9]; done) | rfl | (simp [f2, if_neg hc2, if_neg hc3, if_neg hc4, if_pos hc5, if_neg hc6, if_neg hc9]; done), N0, e0⟩ (by decide) (by decide)
        · refine Go.step (fun t k => XS.icmpNo X0.here hx rfl (hb hby d2_23) rfl (flt hc5).1 k) ?_
          show Go p e below _ (s₁.setTop (mkF m 26 #[.val (.int p1)] []))
          refine Go.step (fun t k => XS.iloadN X0.here hx rfl (hb hby d2_26) rfl k) ?_
          show Go p e below _ (s₁.setTop (mkF m 27 #[.val (.int p1)] [(.int p1)]))
          refine Go.step (X0.ldcInt hx hown (mvT hZ (hw _ (List.mem_of_getElem? (i := 15) rfl))) (g := (mkF m 27 #[.val (.int p1)] [(.int p1)])) rfl (hb hby d2_27)) ?_
          show Go p e below _ (s₁.setTop (mkF m 29 #[.val (.int p1)] [(.int (55295 : Int32)), (.int p1)]))
          by_cases hc12 : (55295 : Int32) < p1
          · refine Go.step (fun t k => XS.icmpYes X0.here hx rfl (pc0 := 29) (pc' := 34) rfl (hb hby d2_29) rfl (tlt hc12).2.2.1 (by decide) (by decide) k) ?_
            show Go p e below _ (s₁.setTop (mkF m 34 #[.val (.int p1)] []))
            refine Go.step (fun t k => XS.iloadN X0.here hx rfl (hb hby d2_34) rfl k) ?_
            show Go p e below _ (s₁.setTop (mkF m 35 #[.val (.int p1)] [(.int p1)]))
            refine Go.step (X0.ldcInt hx hown (mvT hZ (hw _ (List.mem_of_getElem? (i := 10) rfl))) (g := (mkF m 35 #[.val (.int p1)] [(.int p1)])) rfl (hb hby d2_35)) ?_
            show Go p e below _ (s₁.setTop (mkF m 37 #[.val (.int p1)] [(.int (57344 : Int32)), (.int p1)]))
            by_cases hc13 : p1 < (57344 : Int32)
            · refine Go.step (fun t k => XS.icmpYes X0.here hx rfl (pc0 := 37) (pc' := 48) rfl (hb hby d2_37) rfl (tlt hc13).1 (by decide) (by decide) k) ?_
              show Go p e below _ (s₁.setTop (mkF m 48 #[.val (.int p1)] []))
              refine Go.step (fun t k => XS.iloadN X0.here hx rfl (hb hby d2_48) rfl k) ?_
              show Go p e below _ (s₁.setTop (mkF m 49 #[.val (.int p1)] [(.int p1)]))
              refine Go.step (X0.ldcInt hx hown (mvT hZ (hw _ (List.mem_of_getElem? (i := 11) rfl))) (g := (mkF m 49 #[.val (.int p1)] [(.int p1)])) rfl (hb hby d2_49)) ?_
              show Go p e below _ (s₁.setTop (mkF m 51 #[.val (.int p1)] [(.int (65536 : Int32)), (.int p1)]))
              by_cases hc14 : p1 < (65536 : Int32)
              · refine Go.step (fun t k => XS.icmpYes X0.here hx rfl (pc0 := 51) (pc' := 64) rfl (hb hby d2_51) rfl (tlt hc14).1 (by decide) (by decide) k) ?_
                show Go p e below _ (s₁.setTop (mkF m 64 #[.val (.int p1)] []))
                refine Go.step (fun t k => XS.iconst X0.here hx rfl (hb hby d2_64)  k) ?_
                show Go p e below _ (s₁.setTop (mkF m 65 #[.val (.int p1)] [(.int (0 : Int32))]))
                exact retGN X0 hx Bd.notSynchronized Bd.returns (t := .boolean) (by simp) (z' := (0 : Int32)) rfl (hb hby d2_65) ⟨by first | (simp only [f2, if_neg hc2, if_neg hc3, if_neg hc4, if_neg hc5, if_pos hc12, if_pos hc13, if_pos hc14]; done) | rfl | (simp [f2, if_neg hc2, if_neg hc3, if_neg hc4, if_neg hc5, if_pos hc12, if_pos hc13, if_pos hc14]; done), N0, e0⟩ (by decide) (by decide)
              · refine Go.step (fun t k => XS.icmpNo X0.here hx rfl (hb hby d2_51) rfl (flt hc14).1 k) ?_
                show Go p e below _ (s₁.setTop (mkF m 54 #[.val (.int p1)] []))
                refine Go.step (fun t k => XS.iloadN X0.here hx rfl (hb hby d2_54) rfl k) ?_
                show Go p e below _ (s₁.setTop (mkF m 55 #[.val (.int p1)] [(.int p1)]))
                refine Go.step (X0.ldcInt hx hown (mvT hZ (hw _ (List.mem_of_getElem? (i := 18) rfl))) (g := (mkF m 55 #[.val (.int p1)] [(.int p1)])) rfl (hb hby d2_55)) ?_
                show Go p e below _ (s₁.setTop (mkF m 57 #[.val (.int p1)] [(.int (1114111 : Int32)), (.int p1)]))
                by_cases hc15 : (1114111 : Int32) < p1
                · refine Go.step (fun t k => XS.icmpYes X0.here hx rfl (pc0 := 57) (pc' := 64) rfl (hb hby d2_57) rfl (tlt hc15).2.2.1 (by decide) (by decide) k) ?_
                  show Go p e below _ (s₁.setTop (mkF m 64 #[.val (.int p1)] []))
                  refine Go.step (fun t k => XS.iconst X0.here hx rfl (hb hby d2_64)  k) ?_
                  show Go p e below _ (s₁.setTop (mkF m 65 #[.val (.int p1)] [(.int (0 : Int32))]))
                  exact retGN X0 hx Bd.notSynchronized Bd.returns (t := .boolean) (by simp) (z' := (0 : Int32)) rfl (hb hby d2_65) ⟨by first | (simp only [f2, if_neg hc2, if_neg hc3, if_neg hc4, if_neg hc5, if_pos hc12, if_pos hc13, if_neg hc14, if_pos hc15]; done) | rfl | (simp [f2, if_neg hc2, if_neg hc3, if_neg hc4, if_neg hc5, if_pos hc12, if_pos hc13, if_neg hc14, if_pos hc15]; done), N0, e0⟩ (by decide) (by decide)
                · refine Go.step (fun t k => XS.icmpNo X0.here hx rfl (hb hby d2_57) rfl (flt hc15).2.2.1 k) ?_
                  show Go p e below _ (s₁.setTop (mkF m 60 #[.val (.int p1)] []))
                  refine Go.step (fun t k => XS.iconst X0.here hx rfl (hb hby d2_60)  k) ?_
                  show Go p e below _ (s₁.setTop (mkF m 61 #[.val (.int p1)] [(.int (1 : Int32))]))
                  refine Go.step (fun t k => XS.goto X0.here hx rfl (pc0 := 61) (pc' := 65) rfl (hb hby d2_61) (by decide) (by decide) k) ?_
                  show Go p e below _ (s₁.setTop (mkF m 65 #[.val (.int p1)] [(.int (1 : Int32))]))
                  exact retGN X0 hx Bd.notSynchronized Bd.returns (t := .boolean) (by simp) (z' := (1 : Int32)) rfl (hb hby d2_65) ⟨by first | (simp only [f2, if_neg hc2, if_neg hc3, if_neg hc4, if_neg hc5, if_pos hc12, if_pos hc13, if_neg hc14, if_neg hc15]; done) | rfl | (simp [f2, if_neg hc2, if_neg hc3, if_neg hc4, if_neg hc5, if_pos hc12, if_pos hc13, if_neg hc14, if_neg hc15]; done), N0, e0⟩ (by decide) (by decide)
            · refine Go.step (fun t k => XS.icmpNo X0.here hx rfl (hb hby d2_37) rfl (flt hc13).1 k) ?_
              show Go p e below _ (s₁.setTop (mkF m 40 #[.val (.int p1)] []))
              refine Go.step (fun t k => XS.iloadN X0.here hx rfl (hb hby d2_40) rfl k) ?_
              show Go p e below _ (s₁.setTop (mkF m 41 #[.val (.int p1)] [(.int p1)]))
              refine Go.step (X0.ldcInt hx hown (mvT hZ (hw _ (List.mem_of_getElem? (i := 17) rfl))) (g := (mkF m 41 #[.val (.int p1)] [(.int p1)])) rfl (hb hby d2_41)) ?_
              show Go p e below _ (s₁.setTop (mkF m 43 #[.val (.int p1)] [(.int (65533 : Int32)), (.int p1)]))
              by_cases hc16 : (65533 : Int32) < p1
              · refine Go.step (fun t k => XS.icmpYes X0.here hx rfl (pc0 := 43) (pc' := 48) rfl (hb hby d2_43) rfl (tlt hc16).2.2.1 (by decide) (by decide) k) ?_
                show Go p e below _ (s₁.setTop (mkF m 48 #[.val (.int p1)] []))
                refine Go.step (fun t k => XS.iloadN X0.here hx rfl (hb hby d2_48) rfl k) ?_
                show Go p e below _ (s₁.setTop (mkF m 49 #[.val (.int p1)] [(.int p1)]))
                refine Go.step (X0.ldcInt hx hown (mvT hZ (hw _ (List.mem_of_getElem? (i := 11) rfl))) (g := (mkF m 49 #[.val (.int p1)] [(.int p1)])) rfl (hb hby d2_49)) ?_
                show Go p e below _ (s₁.setTop (mkF m 51 #[.val (.int p1)] [(.int (65536 : Int32)), (.int p1)]))
                by_cases hc17 : p1 < (65536 : Int32)
                · refine Go.step (fun t k => XS.icmpYes X0.here hx rfl (pc0 := 51) (pc' := 64) rfl (hb hby d2_51) rfl (tlt hc17).1 (by decide) (by decide) k) ?_
                  show Go p e below _ (s₁.setTop (mkF m 64 #[.val (.int p1)] []))
                  refine Go.step (fun t k => XS.iconst X0.here hx rfl (hb hby d2_64)  k) ?_
                  show Go p e below _ (s₁.setTop (mkF m 65 #[.val (.int p1)] [(.int (0 : Int32))]))
                  exact retGN X0 hx Bd.notSynchronized Bd.returns (t := .boolean) (by simp) (z' := (0 : Int32)) rfl (hb hby d2_65) ⟨by first | (simp only [f2, if_neg hc2, if_neg hc3, if_neg hc4, if_neg hc5, if_pos hc12, if_neg hc13, if_pos hc16, if_pos hc17]; done) | rfl | (simp [f2, if_neg hc2, if_neg hc3, if_neg hc4, if_neg hc5, if_pos hc12, if_neg hc13, if_pos hc16, if_pos hc17]; done), N0, e0⟩ (by decide) (by decide)
                · refine Go.step (fun t k => XS.icmpNo X0.here hx rfl (hb hby d2_51) rfl (flt hc17).1 k) ?_
                  show Go p e below _ (s₁.setTop (mkF m 54 #[.val (.int p1)] []))
                  refine Go.step (fun t k => XS.iloadN X0.here hx rfl (hb hby d2_54) rfl k) ?_
                  show Go p e below _ (s₁.setTop (mkF m 55 #[.val (.int p1)] [(.int p1)]))
                  refine Go.step (X0.ldcInt hx hown (mvT hZ (hw _ (List.mem_of_getElem? (i := 18) rfl))) (g := (mkF m 55 #[.val (.int p1)] [(.int p1)])) rfl (hb hby d2_55)) ?_
                  show Go p e below _ (s₁.setTop (mkF m 57 #[.val (.int p1)] [(.int (1114111 : Int32)), (.int p1)]))
                  by_cases hc18 : (1114111 : Int32) < p1
                  · refine Go.step (fun t k => XS.icmpYes X0.here hx rfl (pc0 := 57) (pc' := 64) rfl (hb hby d2_57) rfl (tlt hc18).2.2.1 (by decide) (by decide) k) ?_
                    show Go p e below _ (s₁.setTop (mkF m 64 #[.val (.int p1)] []))
                    refine Go.step (fun t k => XS.iconst X0.here hx rfl (hb hby d2_64)  k) ?_
                    show Go p e below _ (s₁.setTop (mkF m 65 #[.val (.int p1)] [(.int (0 : Int32))]))
                    exact retGN X0 hx Bd.notSynchronized Bd.returns (t := .boolean) (by simp) (z' := (0 : Int32)) rfl (hb hby d2_65) ⟨by first | (simp only [f2, if_neg hc2, if_neg hc3, if_neg hc4, if_neg hc5, if_pos hc12, if_neg hc13, if_pos hc16, if_neg hc17, if_pos hc18]; done) | rfl | (simp [f2, if_neg hc2, if_neg hc3, if_neg hc4, if_neg hc5, if_pos hc12, if_neg hc13, if_pos hc16, if_neg hc17, if_pos hc18]; done), N0, e0⟩ (by decide) (by decide)
                  · refine Go.step (fun t k => XS.icmpNo X0.here hx rfl (hb hby d2_57) rfl (flt hc18).2.2.1 k) ?_
                    show Go p e below _ (s₁.setTop (mkF m 60 #[.val (.int p1)] []))
                    refine Go.step (fun t k => XS.iconst X0.here hx rfl (hb hby d2_60)  k) ?_
                    show Go p e below _ (s₁.setTop (mkF m 61 #[.val (.int p1)] [(.int (1 : Int32))]))
                    refine Go.step (fun t k => XS.goto X0.here hx rfl (pc0 := 61) (pc' := 65) rfl (hb hby d2_61) (by decide) (by decide) k) ?_
                    show Go p e below _ (s₁.setTop (mkF m 65 #[.val (.int p1)] [(.int (1 : Int32))]))
                    exact retGN X0 hx Bd.notSynchronized Bd.returns (t := .boolean) (by simp) (z' := (1 : Int32)) rfl (hb hby d2_65) ⟨by first | (simp only [f2, if_neg hc2, if_neg hc3, if_neg hc4, if_neg hc5, if_pos hc12, if_neg hc13, if_pos hc16, if_neg hc17, if_neg hc18]; done) | rfl | (simp [f2, if_neg hc2, if_neg hc3, if_neg hc4, if_neg hc5, if_pos hc12, if_neg hc13, if_pos hc16, if_neg hc17, if_neg hc18]; done), N0, e0⟩ (by decide) (by decide)
              · refine Go.step (fun t k => XS.icmpNo X0.here hx rfl (hb hby d2_43) rfl (flt hc16).2.2.1 k) ?_
                show Go p e below _ (s₁.setTop (mkF m 46 #[.val (.int p1)] []))
                refine Go.step (fun t k => XS.iconst X0.here hx rfl (hb hby d2_46)  k) ?_
                show Go p e below _ (s₁.setTop (mkF m 47 #[.val (.int p1)] [(.int (1 : Int32))]))
                exact retGN X0 hx Bd.notSynchronized Bd.returns (t := .boolean) (by simp) (z' := (1 : Int32)) rfl (hb hby d2_47) ⟨by first | (simp only [f2, if_neg hc2, if_neg hc3, if_neg hc4, if_neg hc5, if_pos hc12, if_neg hc13, if_neg hc16]; done) | rfl | (simp [f2, if_neg hc2, if_neg hc3, if_neg hc4, if_neg hc5, if_pos hc12, if_neg hc13, if_neg hc16]; done), N0, e0⟩ (by decide) (by decide)
          · refine Go.step (fun t k => XS.icmpNo X0.here hx rfl (hb hby d2_29) rfl (flt hc12).2.2.1 k) ?_
            show Go p e below _ (s₁.setTop (mkF m 32 #[.val (.int p1)] []))
            refine Go.step (fun t k => XS.iconst X0.here hx rfl (hb hby d2_32)  k) ?_
            show Go p e below _ (s₁.setTop (mkF m 33 #[.val (.int p1)] [(.int (1 : Int32))]))
            exact retGN X0 hx Bd.notSynchronized Bd.returns (t := .boolean) (by simp) (z' := (1 : Int32)) rfl (hb hby d2_33) ⟨by first | (simp only [f2, if_neg hc2, if_neg hc3, if_neg hc4, if_neg hc5, if_neg hc12]; done) | rfl | (simp [f2, if_neg hc2, if_neg hc3, if_neg hc4, if_neg hc5, if_neg hc12]; done), N0, e0⟩ (by decide) (by decide)
theorem pd_0 : parseMethodDescriptor "(I)Z" = some ⟨[.int], some .boolean⟩ := by decide +kernel
theorem ef_0 (m : MethodId) (p1 : Int32) : entryFrame m #[(.int p1)] maxLocals = mkF m 0 #[.val (.int p1), .unset] [] := by first | (simp [entryFrame, mkF, argsToLocals, Value.category, maxLocals]; done) | rfl
def f0 (p1 : Int32) : Int32 := (if (f1 ((p1 &&& (2147483647 : Int32)) % (1114112 : Int32))) = (f2 ((p1 &&& (2147483647 : Int32)) % (1114112 : Int32))) then (1 : Int32) else (0 : Int32))
set_option maxRecDepth 65536 in
set_option maxHeartbeats 40000000 in
theorem rm0 (l : Launch) (Z : State) (a0 : Array Value) (hw : ∀ d ∈ tables_1, d.before a0 Z = true) (ws : List Jvm.Cond) (p1 : Int32) (h0 : Heap) (n0 : Nat) (Z0 : n0 ≤ h0.size) :
    MetFree l x (head1 (Jvm.Cond.code x code maxLocals ret :: ws) room_1) (fun a U => a = #[(.int p1)] ∧ Z.Warmed39 U.vm ∧ U.heap = h0) (fun _ _ _ _ _ => True) (fun _ U o U' => ∃ v L, o = .returned v ∧ QP (.int (f0 p1)) h0 n0 v U'.heap L ∧ FrameEnd U o U' L room_1.cells room_1.slots) := by
  refine MetFree.of_bodySF (plainFor_of_name pn_1) hisR ?_
  intro p e s m args below meth c s₁ Bd hml0 hP hK
  obtain ⟨rfl, hZ, hh⟩ := hP
  have hx := Bd.exec
  have hby := Bd.bytes
  have hml : c.maxLocals = 2 := hml0
  have hown : s.vm.findClass "com/example/tightwire/tightwire/core/XmlCharsAllowsPinLaw" = some m.cls := findClass_of_methodNamed Bd.named
  have hnm := (name_of_methodNamed Bd.named Bd.method).1
  have X0 : Stand p l e room_1 s m #[(.int p1)] below meth c s₁ [] 0 0 := Stand.of_body Bd
  have e0 : s₁.heap = h0 := by rw [← hh, Bd.state]; rfl
  have N0 := Fr.nil n0
  refine Go.done (Go.step (fun t k => castTop (ef_0 m p1) k) ?_)
  show Go p e below _ (s₁.setTop (mkF m 0 #[.val (.int p1), .unset] []))
  refine Go.step (fun t k => XS.iloadN X0.here hx rfl (hb hby at_0) rfl k) ?_
  show Go p e below _ (s₁.setTop (mkF m 1 #[.val (.int p1), .unset] [(.int p1)]))
  refine Go.step (X0.ldcInt hx hown (mvT hZ (hw _ (List.mem_of_getElem? (i := 0) rfl))) (g := (mkF m 1 #[.val (.int p1), .unset] [(.int p1)])) rfl (hb hby at_1)) ?_
  show Go p e below _ (s₁.setTop (mkF m 3 #[.val (.int p1), .unset] [(.int (2147483647 : Int32)), (.int p1)]))
  refine Go.step (fun t k => XS.iand X0.here hx rfl (hb hby at_3) rfl k) ?_
  show Go p e below _ (s₁.setTop (mkF m 4 #[.val (.int p1), .unset] [(.int (p1 &&& (2147483647 : Int32)))]))
  refine Go.step (X0.ldcInt hx hown (mvT hZ (hw _ (List.mem_of_getElem? (i := 1) rfl))) (g := (mkF m 4 #[.val (.int p1), .unset] [(.int (p1 &&& (2147483647 : Int32)))])) rfl (hb hby at_4)) ?_
  show Go p e below _ (s₁.setTop (mkF m 6 #[.val (.int p1), .unset] [(.int (1114112 : Int32)), (.int (p1 &&& (2147483647 : Int32)))]))
  refine Go.step (fun t (k : Steps p.tables e below (s₁.setTop (mkF m 7 #[.val (.int p1), .unset] [(.int ((p1 &&& (2147483647 : Int32)) % (1114112 : Int32)))])) t) => XS.irem X0.here hx rfl (hb hby at_6) rfl (by decide) (by rw [remI]; exact k)) ?_
  show Go p e below _ (s₁.setTop (mkF m 7 #[.val (.int p1), .unset] [(.int ((p1 &&& (2147483647 : Int32)) % (1114112 : Int32)))]))
  obtain ⟨v2, hv2⟩ : ∃ z : Int32, z = ((p1 &&& (2147483647 : Int32)) % (1114112 : Int32)) := ⟨_, rfl⟩
  rw [← hv2]
  show Go p e below _ (s₁.setTop (mkF m 7 #[.val (.int p1), .unset] [(.int v2)]))
  refine Go.step (fun t k => XS.istoreN X0.here hx rfl (hb hby at_7) rfl (l' := #[.val (.int p1), .val (.int v2)]) rfl k) ?_
  show Go p e below _ (s₁.setTop (mkF m 8 #[.val (.int p1), .val (.int v2)] []))
  refine Go.step (fun t k => XS.iloadN X0.here hx rfl (hb hby at_8) rfl k) ?_
  show Go p e below _ (s₁.setTop (mkF m 9 #[.val (.int p1), .val (.int v2)] [(.int v2)]))
  obtain ⟨_, _, ⟨T3, L3, k3, n3⟩, -, X3, ⟨Lc3, hQ3, l3, y3, z3⟩, st3⟩ := Jvm.LawKit.callS X0 hx (y := (⟨"com/example/tightwire/tightwire/core/XmlChars", "allows", "(I)Z"⟩ : MethodName)) hown (mvT hZ (hw _ (List.mem_of_getElem? (i := 2) rfl))) (mvT hZ (hw _ (List.mem_of_getElem? (i := 3) rfl))) (mvT hZ (hw _ (List.mem_of_getElem? (i := 4) rfl))) (mvT hZ (hw _ (List.mem_of_getElem? (i := 5) rfl))) (by decide) (backOf (W := 0) (rm1 l Z a0 hw [] v2 h0 n0 Z0) hZ (hw _ (List.mem_of_getElem? (i := 5) rfl)) (hw _ (List.mem_of_getElem? (i := 4) rfl)) (by decide) (by decide)) (g := (mkF m 9 #[.val (.int p1), .val (.int v2)] [(.int v2)])) rfl (by rw [hml]; rfl) (argsL := [(.int v2)]) (rest := []) (lenOf pd_0 rfl) rfl (by show 2 * 0 + _ ≤ _; exact Nat.le_of_eq rfl) (hb hby at_9) (fun _ _ => ⟨rfl, e0, (by decide : 0 + 0 ≤ _), (by decide : 0 + 0 ≤ _)⟩)
  dsimp only [Pt.U, Pt.locs, Pt.cells, Pt.slots] at X3 l3 y3 z3 st3 hQ3
  subst l3 y3 z3
  obtain ⟨rfl, N3q, e3⟩ := hQ3
  have N3 := Fr.app N0 N3q
  refine Go.step st3 ?_
  show Go p e below _ (T3.setTop (mkF m 12 #[.val (.int p1), .val (.int v2)] [(.int (f1 v2))]))
  refine Go.step (fun t k => XS.iloadN X3.here hx rfl (hb hby at_12) rfl k) ?_
  show Go p e below _ (T3.setTop (mkF m 13 #[.val (.int p1), .val (.int v2)] [(.int v2), (.int (f1 v2))]))
  obtain ⟨_, _, ⟨T4, L4, k4, n4⟩, -, X4, ⟨Lc4, hQ4, l4, y4, z4⟩, st4⟩ := Jvm.LawKit.callS X3 hx (y := (⟨"com/example/tightwire/tightwire/core/XmlCharsAllowsPinLaw", "xmlChar", "(I)Z"⟩ : MethodName)) hown (mvT hZ (hw _ (List.mem_of_getElem? (i := 6) rfl))) (mvT hZ (hw _ (List.mem_of_getElem? (i := 7) rfl))) (mvT hZ (hw _ (List.mem_of_getElem? (i := 8) rfl))) (mvT hZ (hw _ (List.mem_of_getElem? (i := 9) rfl))) (by decide) (backOf (W := 1) (rm2 l Z a0 hw [] v2 h0 n0 Z0) hZ (hw _ (List.mem_of_getElem? (i := 9) rfl)) (hw _ (List.mem_of_getElem? (i := 8) rfl)) (by decide) (by decide)) (g := (mkF m 13 #[.val (.int p1), .val (.int v2)] [(.int v2), (.int (f1 v2))])) rfl (by rw [hml]; rfl) (argsL := [(.int v2)]) (rest := [(.int (f1 v2))]) (lenOf pd_0 rfl) rfl (by show 2 * 0 + _ ≤ _; exact Nat.le_of_eq rfl) (hb hby at_13) (fun _ _ => ⟨rfl, e3, (by decide : 0 + 0 ≤ _), (by decide : 0 + 0 ≤ _)⟩)
  dsimp only [Pt.U, Pt.locs, Pt.cells, Pt.slots] at X4 l4 y4 z4 st4 hQ4
  subst l4 y4 z4
  obtain ⟨rfl, N4q, e4⟩ := hQ4
  have N4 := Fr.app N3 N4q
  refine Go.step st4 ?_
  show Go p e below _ (T4.setTop (mkF m 16 #[.val (.int p1), .val (.int v2)] [(.int (f2 v2)), (.int (f1 v2))]))
  by_cases hc5 : (f1 v2) = (f2 v2)
  · refine Go.step (fun t k => XS.icmpNo X4.here hx rfl (hb hby at_16) rfl (teq hc5).2 k) ?_
    show Go p e below _ (T4.setTop (mkF m 19 #[.val (.int p1), .val (.int v2)] []))
    refine Go.step (fun t k => XS.iconst X4.here hx rfl (hb hby at_19)  k) ?_
    show Go p e below _ (T4.setTop (mkF m 20 #[.val (.int p1), .val (.int v2)] [(.int (1 : Int32))]))
    refine Go.step (fun t k => XS.goto X4.here hx rfl (pc0 := 20) (pc' := 24) rfl (hb hby at_20) (by decide) (by decide) k) ?_
    show Go p e below _ (T4.setTop (mkF m 24 #[.val (.int p1), .val (.int v2)] [(.int (1 : Int32))]))
    subst hv2
    exact retGN X4 hx Bd.notSynchronized Bd.returns (t := .boolean) (by simp) (z' := (1 : Int32)) rfl (hb hby at_24) ⟨by first | (simp only [f0, if_pos hc5]; done) | rfl | (simp [f0, if_pos hc5]; done), N4, e4⟩ (by decide) (by decide)
  · refine Go.step (fun t k => XS.icmpYes X4.here hx rfl (pc0 := 16) (pc' := 23) rfl (hb hby at_16) rfl (feq hc5).2 (by decide) (by decide) k) ?_
    show Go p e below _ (T4.setTop (mkF m 23 #[.val (.int p1), .val (.int v2)] []))
    refine Go.step (fun t k => XS.iconst X4.here hx rfl (hb hby at_23)  k) ?_
    show Go p e below _ (T4.setTop (mkF m 24 #[.val (.int p1), .val (.int v2)] [(.int (0 : Int32))]))
    subst hv2
    exact retGN X4 hx Bd.notSynchronized Bd.returns (t := .boolean) (by simp) (z' := (0 : Int32)) rfl (hb hby at_24) ⟨by first | (simp only [f0, if_neg hc5]; done) | rfl | (simp [f0, if_neg hc5]; done), N4, e4⟩ (by decide) (by decide)

theorem own_eq (n : Int32) (h0 : 0 ≤ n.toInt) (h1 : n.toInt < 1114112) : f1 n = f2 n := by
  have L : ∀ (a b : Int32) (x : Int), b.toInt = x → ((a < b) ↔ a.toInt < x) := fun a b x e => by rw [Int32.lt_iff_toInt_lt, e]
  have R : ∀ (a b : Int32) (x : Int), b.toInt = x → ((b < a) ↔ x < a.toInt) := fun a b x e => by rw [Int32.lt_iff_toInt_lt, e]
  have E : ∀ (a b : Int32) (x : Int), b.toInt = x → ((a = b) ↔ a.toInt = x) := fun a b x e => by rw [← Int32.toInt_inj, e]
  have q1 := L n 32 32 (by decide)
  have q2 := L n 55296 55296 (by decide)
  have q3 := R n 57343 57343 (by decide)
  have q4 := R n 55295 55295 (by decide)
  have q5 := L n 57344 57344 (by decide)
  have q6 := R n 65533 65533 (by decide)
  have q7 := L n 65536 65536 (by decide)
  have q8 := R n 1114111 1114111 (by decide)
  have q9 := E n 9 9 (by decide)
  have q10 := E n 10 10 (by decide)
  have q13 := E n 13 13 (by decide)
  have q34 := E n 65534 65534 (by decide)
  have q35 := E n 65535 65535 (by decide)
  have b8 : ¬ (1114111 : Int32) < n := by rw [q8]; omega
  unfold f1 f2
  by_cases c1 : n < 32
  · have b5 : n < 57344 := by rw [q5]; rw [q1] at c1; omega
    have b7 : n < 65536 := by rw [q7]; rw [q1] at c1; omega
    simp only [c1, b5, b7, if_true]
  · have b9 : ¬ n = 9 := by rw [q9]; rw [q1] at c1; omega
    have b10 : ¬ n = 10 := by rw [q10]; rw [q1] at c1; omega
    have b13 : ¬ n = 13 := by rw [q13]; rw [q1] at c1; omega
    by_cases c2 : n < 55296
    · have b4 : ¬ (55295 : Int32) < n := by rw [q4]; rw [q2] at c2; omega
      have b34 : ¬ n = 65534 := by rw [q34]; rw [q2] at c2; omega
      have b35 : ¬ n = 65535 := by rw [q35]; rw [q2] at c2; omega
      simp only [c1, c2, b9, b10, b13, b4, b34, b35, if_true, if_false]
    · have b4 : (55295 : Int32) < n := by rw [q4]; rw [q2] at c2; omega
      by_cases c3 : (57343 : Int32) < n
      · have b5 : ¬ n < 57344 := by rw [q5]; rw [q3] at c3; omega
        by_cases c34 : n = 65534
        · have b6 : (65533 : Int32) < n := by rw [q6]; rw [q34] at c34; omega
          have b7 : n < 65536 := by rw [q7]; rw [q34] at c34; omega
          simp only [c1, c2, c3, b9, b10, b13, b4, b5, b6, b7, c34, if_true, if_false]
          decide
        · by_cases c35 : n = 65535
          · have b6 : (65533 : Int32) < n := by rw [q6]; rw [q35] at c35; omega
            have b7 : n < 65536 := by rw [q7]; rw [q35] at c35; omega
            simp only [c1, c2, c3, b9, b10, b13, b4, b5, b6, b7, c34, c35, if_true, if_false]
            decide
          · by_cases c6 : (65533 : Int32) < n
            · have b7 : ¬ n < 65536 := by rw [q7]; rw [q34] at c34; rw [q35] at c35; rw [q6] at c6; omega
              simp only [c1, c2, c3, b9, b10, b13, b4, b5, c6, b7, c34, c35, b8, if_true, if_false]
            · simp only [c1, c2, c3, b9, b10, b13, b4, b5, c6, c34, c35, b8, if_true, if_false]
      · have b5 : n < 57344 := by rw [q5]; rw [q3] at c3; omega
        have b7 : n < 65536 := by rw [q7]; rw [q3] at c3; omega
        simp only [c1, c2, c3, b9, b10, b13, b4, b5, b7, if_true, if_false]
        exact if_neg (by decide)
theorem law_true (a : Int32) : f0 a = 1 := by
  have h1 := c_and a 2147483647 (by decide)
  have h2 := (c_iremV (a &&& 2147483647) 1114112).1 h1.1 (by decide)
  have e : (1114112 : Int32).toInt = 1114112 := by decide
  rw [e] at h2
  unfold f0
  rw [if_pos (own_eq _ h2.1 h2.2.1)]

set_option maxRecDepth 65536 in
set_option maxHeartbeats 40000000 in
theorem comes_1 {Post : Tables → Env → Array Value → State → Outcome → State → Prop} (hpost : ∀ tb e args s v u, (limb_1_1.after args s (.returned v) u = true ∧ limb_1_2.after args s (.returned v) u = true ∧ True) → FrameEnd s (.returned v) u (Jvm.fieldLocs frame_1_writes args s ++ Jvm.arrayLocs frame_1_arrays args s ++ Jvm.staticLocs frame_1_statics s) 0 0 → Post tb e args s (.returned v) u) :
    ArmFor flags0 classFile x code maxLocals ret World_1 tables_1 room_1 Calls_1 rest_1 Pre_1 Post := by
  intro l hfl _ _ p e ha hc hk s m args below hf hA hF happ hP
  obtain ⟨hcalls, hrest, hpre⟩ := hP
  obtain ⟨-, -, -, hnamed, -, -, -, hat⟩ := (Spec.applies_iff hf).mp happ
  obtain ⟨hg, hn⟩ := and_e (Cond.before_iff.mp (show (Jvm.Cond.and given_1 narrow_1).before args s = true from hpre))
  obtain ⟨g0, hg⟩ := and_e hg
  have ga0 := hg
  obtain ⟨w0, rfl⟩ : ∃ w0 : Value, args = #[w0] := by
    have hs : args.size = 1 := by simpa [Cond.value, given_1] using g0
    obtain ⟨L⟩ := args
    match L, hs with
    | [w0], _ => exact ⟨w0, rfl⟩
  have hw := fun d (hd : d ∈ tables_1) => atoms_spec (ws := Jvm.Cond.code x code maxLocals ret :: tables_1) hat d (List.mem_cons_of_mem _ hd)
  have hfit : Fit s := fun {y c} hc i hi => by
    obtain ⟨ha, rfl⟩ := Array.getElem?_eq_some_iff.mp hc
    have q := List.all_eq_true.mp ((Array.all_eq_true_iff_forall_mem.mp hF) _ (Array.getElem_mem ha)) i (List.mem_range.mpr hi)
    simpa [Array.getElem?_eq_getElem hi] using q
  obtain ⟨i0, ei0⟩ := is_v ga0
  obtain rfl : w0 = (.int i0) := Option.some.inj ei0
  obtain ⟨n, o, h1, h2, h3, v, L, rfl, hQ, hq⟩ := rm0 l s _ hw tables_1 i0  s.heap s.heap.size (Nat.le_refl _)  p e ha hc hk s m _ below hf ((Spec.applies_iff_loose hf).mp happ).1 ⟨rfl, State.Warmed39.refl s, rfl⟩ trivial
  obtain ⟨hv, N, -⟩ := hQ
  rw [law_true i0] at hv
  subst hv
  refine ⟨n, _, h1, h2, h3, hpost _ _ _ _ _ _ ⟨Cond.after_iff.mpr rfl, Cond.after_iff.mpr (eq_i res_at (Term.int_eval (1)) rfl), trivial⟩ ⟨hq.1, hq.2.1, (hq.2.2.sift fun y hy => Or.inr (N y hy)).mono (by decide) (by decide)⟩⟩
theorem main_1_1 : Claimed_1_1 := comes_1 fun _ _ _ _ _ _ h hF => ⟨h.1, hF⟩
theorem main_1_2 : Claimed_1_2 := comes_1 fun _ _ _ _ _ _ h hF => ⟨h.2.1, hF⟩
end Jvm.Pilot.@@N@@
namespace Jvm.Pilot.@@N@@
open Jvm Jvm.ClassFile Sem Op Lib Jvm.Free Jvm.Stand Jvm.Pilot.@@N@@.Jvm.D
/-! MADE BY PROGRAM (witnessworld.py) out of the Statement's table words and the real class files: 9 classes; the members and pool entries that the words name. The judged class is class 1, her method 2. -/
namespace start1
open Jvm.ClassFile
def u (s : String) : CpInfo := .utf8 (stringToUtf16 s)
/-- a pool by its gaps: so many unusable entries, then the entry; so many at the end -/
def gap : Nat → List CpInfo → List CpInfo
  | 0, r => r
  | n + 1, r => .unusable :: gap n r
def poolList (es : List (Nat × CpInfo)) (last : Nat) : List CpInfo := es.foldr (fun e r => gap e.1 (e.2 :: r)) (gap last [])
def pool (es : List (Nat × CpInfo)) (last : Nat) : Array CpInfo := ⟨poolList es last⟩
def fileOf (pool : Array CpInfo) (this : Nat) (attrs : Array Attribute := #[]) (ms : Array MethodInfo := #[]) (fl : Nat := 33) (sup : Nat := 0) (ifs : Array Nat := #[]) (fds : Array FieldInfo := #[]) : ClassFile where
  minorVersion := 0
  majorVersion := 65
  constantPool := pool
  accessFlags := fl
  thisClass := this
  superClass := sup
  interfaces := ifs
  fields := fds
  methods := ms
  attributes := attrs
def plain (name : String) (sup : Option ClassId) : Class where
  name := name
  kind := .ordinary
  loader := none
  accessFlags := 33
  super := sup
  interfaces := #[]
  cf := none
  fields := #[]
  methods := #[]
  instanceTypes := #[]
  staticTypes := #[]
  resolved := #[]
  callSites := []
  init := .initialized
  statics := none
  mirror := none

def pool0 : Array CpInfo := pool [(5, u "<init>"), (0, u "()V"), (1, .class_ 10), (1, u "java/lang/Object")] 113

def k0m0 : Method := { name := "<init>", desc := "()V", sig := { parameters := [], returnType := none }, accessFlags := 1, code := none }
/-- java/lang/Object -/
def k0 : Class := { plain "java/lang/Object" none with
  accessFlags := 33
  interfaces := #[]
  cf := some (fileOf pool0 8 #[] #[{ accessFlags := 1, nameIndex := 5, descriptorIndex := 6, attributes := #[] }] 33 0 #[] #[])
  fields := #[]
  methods := #[k0m0]
  instanceTypes := #[]
  staticTypes := #[]
  resolved := Array.replicate 124 none
  statics := none }

def pool1 : Array CpInfo := pool [(2, .class_ 4), (1, u "java/lang/Object"), (0, u "<init>"), (0, u "()V"), (0, .integer 55295), (0, .integer 57344), (0, .integer 65533), (0, .integer 65536), (0, .integer 1114111), (0, .integer 2147483647), (0, .integer 1114112), (0, .methodref 15 16), (0, .class_ 17), (0, .nameAndType 18 19), (0, u "com/example/tightwire/tightwire/core/XmlChars"), (0, u "allows"), (0, u "(I)Z"), (0, .methodref 21 22), (0, .class_ 23), (0, .nameAndType 24 19), (0, u "com/example/tightwire/tightwire/core/XmlCharsAllowsPinLaw"), (0, u "xmlChar"), (3, u "law")] 2

def k1m0 : Method := { name := "<init>", desc := "()V", sig := { parameters := [], returnType := none }, accessFlags := 2, code := none }
def k1c1 : Code := { maxStack := 2, maxLocals := 1, code := method_2_code, exceptionTable := #[], attributes := #[] }
def k1m1 : Method := { name := "xmlChar", desc := "(I)Z", sig := { parameters := [.int], returnType := some .boolean }, accessFlags := 10, code := some k1c1 }
def k1c2 : Code := { maxStack := 2, maxLocals := 2, code := code, exceptionTable := #[], attributes := #[] }
def k1m2 : Method := { name := "law", desc := "(I)Z", sig := { parameters := [.int], returnType := some .boolean }, accessFlags := 9, code := some k1c2 }
/-- com/example/tightwire/tightwire/core/XmlCharsAllowsPinLaw -/
def k1 : Class := { plain "com/example/tightwire/tightwire/core/XmlCharsAllowsPinLaw" (some 0) with
  accessFlags := 49
  interfaces := #[]
  cf := some (fileOf pool1 21 #[] #[{ accessFlags := 2, nameIndex := 5, descriptorIndex := 6, attributes := #[] }, { accessFlags := 10, nameIndex := 24, descriptorIndex := 19, attributes := #[] }, { accessFlags := 9, nameIndex := 28, descriptorIndex := 19, attributes := #[] }] 49 2 #[] #[])
  fields := #[]
  methods := #[k1m0, k1m1, k1m2]
  instanceTypes := #[]
  staticTypes := #[]
  resolved := Array.replicate 31 none
  statics := none }

def pool2 : Array CpInfo := pool [(2, .class_ 4), (1, u "java/lang/Object"), (0, u "<init>"), (0, u "()V"), (2, .integer 55296), (0, .integer 57343), (0, .integer 65534), (0, .integer 65535), (16, .class_ 31), (1, u "com/example/tightwire/tightwire/core/XmlChars"), (0, u "allows"), (0, u "(I)Z"), (12, u "REPLACEMENT"), (0, u "I")] 8

def k2m0 : Method := { name := "<init>", desc := "()V", sig := { parameters := [], returnType := none }, accessFlags := 2, code := none }
def k2c1 : Code := { maxStack := 2, maxLocals := 2, code := prog_35_method_2_code, exceptionTable := #[], attributes := #[] }
def k2m1 : Method := { name := "allows", desc := "(I)Z", sig := { parameters := [.int], returnType := some .boolean }, accessFlags := 8, code := some k2c1 }
/-- com/example/tightwire/tightwire/core/XmlChars -/
def k2 : Class := { plain "com/example/tightwire/tightwire/core/XmlChars" (some 0) with
  accessFlags := 48
  interfaces := #[]
  cf := some (fileOf pool2 29 #[] #[{ accessFlags := 2, nameIndex := 5, descriptorIndex := 6, attributes := #[] }, { accessFlags := 8, nameIndex := 32, descriptorIndex := 33, attributes := #[] }] 48 2 #[] #[{ accessFlags := 26, nameIndex := 46, descriptorIndex := 47, attributes := #[] }])
  fields := #[{ name := "REPLACEMENT", type := .int, accessFlags := 26, slot := 0, constantValue := 0 }]
  methods := #[k2m0, k2m1]
  instanceTypes := #[]
  staticTypes := #[.int]
  resolved := Array.replicate 56 none
  statics := none }

def pool3 : Array CpInfo := pool [(1, u "java/lang/Cloneable"), (0, .class_ 1), (0, u "java/lang/Object"), (0, .class_ 3)] 3

/-- java/lang/Cloneable -/
def k3 : Class := { plain "java/lang/Cloneable" (some 0) with
  accessFlags := 1537
  interfaces := #[]
  cf := some (fileOf pool3 2 #[] #[] 1537 4 #[] #[])
  fields := #[]
  methods := #[]
  instanceTypes := #[]
  staticTypes := #[]
  resolved := Array.replicate 8 none
  statics := none }

def pool4 : Array CpInfo := pool [(1, u "java/io/Serializable"), (0, .class_ 1), (0, u "java/lang/Object"), (0, .class_ 3)] 3

/-- java/io/Serializable -/
def k4 : Class := { plain "java/io/Serializable" (some 0) with
  accessFlags := 1537
  interfaces := #[]
  cf := some (fileOf pool4 2 #[] #[] 1537 4 #[] #[])
  fields := #[]
  methods := #[]
  instanceTypes := #[]
  staticTypes := #[]
  resolved := Array.replicate 8 none
  statics := none }

/-- the primitive byte -/
def k5 : Class := { plain "byte" none with kind := .primitive 'B', accessFlags := 0x411 }
/-- [B -/
def k6 : Class := { plain "[B" (some 0) with kind := .array 5 .byte, interfaces := #[3, 4], accessFlags := 1041 }

/-- the primitive int -/
def k7 : Class := { plain "int" none with kind := .primitive 'I', accessFlags := 0x411 }
/-- [I -/
def k8 : Class := { plain "[I" (some 0) with kind := .array 7 .int, interfaces := #[3, 4], accessFlags := 1041 }

def heap : Heap := #[]
def classes : Array Class := #[k0, k1, k2, k3, k4, k5, k6, k7, k8]
def interned : List (Array UInt16 × Addr) := []
def slotsUsed : Nat := 0
def theMethod : MethodId := ⟨1, 2⟩
def args0 : Array Value := #[.int 5]
def aboutOver (below : List Frame) : State where
  vm := { classes := classes, interned := interned.toArray }
  heap := heap
  slotsUsed := slotsUsed
  threads := #[{ frames := .invoking theMethod args0 :: below }]
def below0 : List Frame := [.native { method := ⟨0, 0⟩, args := #[] }]
def about1 : State := aboutOver below0
def p0 : Program := .bare "" "" ""
def e0 : Env := launch0.env 0 0 0
theorem w_frames : about1.frames = Frame.invoking theMethod args0 :: below0 := rfl
set_option maxRecDepth 65536 in
theorem w_args : argsFit about1.vm theMethod args0 = true := by decide +kernel
set_option maxRecDepth 65536 in
theorem w_heap : heapFits about1 = true := by decide +kernel
set_option maxRecDepth 65536 in
theorem w_runnable : about1.curStatus? = some .runnable := by decide +kernel
set_option maxRecDepth 65536 in
theorem w_alone : about1.alone = true := by decide +kernel
set_option maxRecDepth 65536 in
theorem w_named : about1.methodNamed? x = some theMethod := by decide +kernel
set_option maxRecDepth 65536 in
theorem w_hears : about1.hears theMethod below0 = true := by decide +kernel
set_option maxRecDepth 65536 in
theorem w_ripe : about1.ripe theMethod args0 below0 = true := by decide +kernel
theorem w_running : about1.status = .running := rfl
set_option maxRecDepth 65536 in
theorem w_room : about1.hasRoom e0.platform room_1 = true :=
  launch0.hasRoom_least _ room_1 (by decide +kernel) (by decide +kernel) (by decide +kernel) (by decide +kernel) (by decide +kernel) (by decide +kernel)
theorem allAtoms_all (ts : List Jvm.Cond) (a : Array Jvm.Value) (st : Jvm.State) : (allAtoms ts).before a st = ts.all (fun c => c.before a st) := by
  induction ts with
  | nil => rfl
  | cons c t ih =>
    show (Jvm.Cond.and c (allAtoms t)).before a st = _
    rw [Jvm.Cond.before_and, ih, List.all_cons]
def words1 : List Jvm.Cond := Jvm.Cond.code x code maxLocals ret :: tables_1
/-- a 'code' word, met by the world's own term for the bytes: nothing is compared byte by byte -/
theorem code_word {y : MethodName} {bytes : ByteArray} {mx : Nat} {rt : Option FieldType} {a : Array Value} {s : State} {m : MethodId} {meth : Method} {c : Code} (h1 : s.methodNamed? y = some m) (h2 : s.vm.method? m = some meth) (h3 : meth.code = some c) (h4 : c.code = bytes)
    (h5 : (c.maxLocals == mx && c.exceptionTable.isEmpty && decide (c.maxStack ≤ mostOperands) && decide (meth.sig.returnType = rt) && !meth.locks && decide (parseMethodDescriptor y.desc = some meth.sig)) = true) : (Jvm.Cond.code y bytes mx rt).before a s = true := by
  simp only [Bool.and_eq_true, beq_iff_eq, Bool.not_eq_true', decide_eq_true_eq] at h5
  obtain ⟨⟨⟨⟨⟨g1, g2⟩, g3⟩, g4⟩, g5⟩, g6⟩ := h5
  simp [Cond.before, Cond.holds, Cond.value, h1, h2, h3, h4, g1, g2, g3, g4, g5, g6]
def isCode : Jvm.Cond → Bool
  | .code _ _ _ _ => true
  | _ => false
theorem all_split {L : List Jvm.Cond} {P : Jvm.Cond → Bool} (h1 : L.all (fun c => isCode c || P c) = true) (h2 : ∀ c ∈ L.filter isCode, P c = true) : L.all P = true := by
  refine List.all_eq_true.mpr fun c hc => ?_
  have h := List.all_eq_true.mp h1 c hc
  rcases Bool.eq_false_or_eq_true (isCode c) with hi | hi
  · exact h2 c (List.mem_filter.mpr ⟨hc, hi⟩)
  · simpa [hi] using h
set_option maxRecDepth 65536 in
theorem w_c0 : (Jvm.Cond.code x code maxLocals ret).before args0 about1 = true := code_word (m := ⟨1, 2⟩) (meth := k1m2) (c := k1c2) (by decide +kernel) rfl rfl rfl (by decide +kernel)
set_option maxRecDepth 65536 in
theorem w_c1 : (Jvm.Cond.code ({ cls := "com/example/tightwire/tightwire/core/XmlChars", name := "allows", desc := "(I)Z" } : Jvm.MethodName) prog_35_method_2_code (2 : Nat) (Option.some Jvm.ClassFile.FieldType.boolean)).before args0 about1 = true := code_word (m := ⟨2, 1⟩) (meth := k2m1) (c := k2c1) (by decide +kernel) rfl rfl rfl (by decide +kernel)
set_option maxRecDepth 65536 in
theorem w_c2 : (Jvm.Cond.code ({ cls := "com/example/tightwire/tightwire/core/XmlCharsAllowsPinLaw", name := "xmlChar", desc := "(I)Z" } : Jvm.MethodName) method_2_code (1 : Nat) (Option.some Jvm.ClassFile.FieldType.boolean)).before args0 about1 = true := code_word (m := ⟨1, 1⟩) (meth := k1m1) (c := k1c1) (by decide +kernel) rfl rfl rfl (by decide +kernel)
def codes1 : List Jvm.Cond := [Jvm.Cond.code x code maxLocals ret, Jvm.Cond.code ({ cls := "com/example/tightwire/tightwire/core/XmlChars", name := "allows", desc := "(I)Z" } : Jvm.MethodName) prog_35_method_2_code (2 : Nat) (Option.some Jvm.ClassFile.FieldType.boolean), Jvm.Cond.code ({ cls := "com/example/tightwire/tightwire/core/XmlCharsAllowsPinLaw", name := "xmlChar", desc := "(I)Z" } : Jvm.MethodName) method_2_code (1 : Nat) (Option.some Jvm.ClassFile.FieldType.boolean)]
set_option maxRecDepth 65536 in
theorem codes_eq : words1.filter isCode = codes1 := rfl
theorem w_codes : ∀ c ∈ words1.filter isCode, c.before args0 about1 = true := by
  rw [codes_eq]
  intro c hc
  simp only [codes1, List.mem_cons, List.not_mem_nil, or_false] at hc
  rcases hc with rfl | rfl | rfl
  · exact w_c0
  · exact w_c1
  · exact w_c2
set_option maxRecDepth 65536 in
theorem w_t1 : words1.all (fun c => isCode c || c.before args0 about1) = true := by decide +kernel
theorem w_tables : (allAtoms (Jvm.Cond.code x code maxLocals ret :: tables_1)).before args0 about1 = true := by
  rw [allAtoms_all]
  show words1.all (fun c => c.before args0 about1) = true
  refine all_split ?_ w_codes
  rw [w_t1]
set_option maxRecDepth 65536 in
theorem w_case : (Jvm.Cond.and given_1 narrow_1).before args0 about1 = true := by decide +kernel
theorem w_applies : (headSpec (Jvm.Cond.code x code maxLocals ret :: tables_1) room_1).applies x e0.platform about1 = true :=
  (Spec.applies_iff w_frames).mpr ⟨w_running, w_runnable, w_alone, w_named, w_hears, w_ripe, w_room, w_tables⟩
theorem atStart : AtStart classFile x code maxLocals ret World_1 tables_1 room_1 Calls_1 rest_1 Pre_1 launch0 p0 e0 about1 theMethod args0 below0 :=
  ⟨lists_1, trivial, launch0.admits_env _ _ _, launch0.least_env, fairChoices_fair.cas, fairChoices_fair.clock, w_frames, w_args, w_heap, w_applies, trivial, trivial, w_case⟩
end start1
theorem witness_1 : WitnessClaimed_1 := ⟨start1.p0, start1.e0, start1.about1, start1.theMethod, start1.args0, start1.below0, start1.atStart⟩
end Jvm.Pilot.@@N@@
