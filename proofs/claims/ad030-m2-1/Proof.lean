import JvmDerived
import JvmDerived.Pilot.@@N@@Statement
import JvmDerived.Pilot.@@N@@Code
set_option linter.unusedVariables false
set_option linter.unusedSimpArgs false
namespace Jvm.OwnKit
open Sem ClassFile Op Lib Jvm.Stand Jvm.Free Jvm.LawKit Jvm.RoadKit
/-- from S the run comes to a state of which Φ holds -/
def Go (p : Program) (e : Env) (below : List Frame) (Φ : State → Prop) (S : State) : Prop := ∃ u, Steps p.tables e below S u ∧ Φ u
theorem Go.step {p : Program} {e : Env} {below : List Frame} {Φ : State → Prop} {S S' : State} (h : ∀ t, Steps p.tables e below S' t → Steps p.tables e below S t) (k : Go p e below Φ S') : Go p e below Φ S := by
  obtain ⟨u, q, r⟩ := k
  exact ⟨u, h u q, r⟩
theorem Go.trans {p : Program} {e : Env} {below : List Frame} {Φ : State → Prop} {S S' : State} (h : Steps p.tables e below S S') (k : Go p e below Φ S') : Go p e below Φ S := by
  obtain ⟨u, q, r⟩ := k
  exact ⟨u, Steps.trans h q, r⟩
theorem Go.here {p : Program} {e : Env} {below : List Frame} {Φ : State → Prop} {S : State} (k : Φ S) : Go p e below Φ S := ⟨S, Steps.refl _, k⟩
/-- the end of a body -/
def FinQ (below : List Frame) (s : State) (Q : Option Value → Heap → List Loc → Prop) (k n : Nat) (u : State) : Prop :=
  ∃ o, u.status = .running ∧ Ended u below o ∧ ∃ v L, o = .returned v ∧ Q v u.heap L ∧ FrameEnd s o u L k n
theorem Go.done {p : Program} {e : Env} {below : List Frame} {s : State} {Q : Option Value → Heap → List Loc → Prop} {k n : Nat} {S : State} (h : Go p e below (FinQ below s Q k n) S) :
    ∃ s₂ o, Steps p.tables e below S s₂ ∧ s₂.status = .running ∧ Ended s₂ below o ∧ ∃ v L, o = .returned v ∧ Q v s₂.heap L ∧ FrameEnd s o s₂ L k n := by
  obtain ⟨u, q, o, r1, r2, r3⟩ := h
  exact ⟨u, o, q, r1, r2, r3⟩
section New
variable {p : Program} {l : Launch} {e : Env} {R : Room} {s : State} {m : MethodId} {args : Array Value} {below : List Frame} {meth : Method} {c : Code} {T : State} {locs : List Loc} {cells slots : Nat}
/-- the run stands at the frame F, in a heap h -/
def AtF (p : Program) (l : Launch) (e : Env) (R : Room) (s : State) (m : MethodId) (args : Array Value) (below : List Frame) (meth : Method) (c : Code) (n0 cells slots : Nat) (h : Heap) (F : JFrame) (u : State) : Prop :=
  ∃ T' locs', u = T'.setTop F ∧ Stand p l e R s m args below meth c T' locs' cells slots ∧ Fr n0 locs' ∧ T'.heap = h
theorem retG {pc : Nat} {Ls : Array Slot} {w : Value} {t : FieldType} {i : Instr} {rest : List Value} {Q : Option Value → Heap → List Loc → Prop} {k n : Nat}
    (X : Stand p l e R s m args below meth c T locs cells slots) (hx : p.tables.exec = Jvm.exec) (hlocks : meth.locks = false) (hret : meth.sig.returnType = some t) (hn : narrow t w = w)
    (hi : (i = .ireturn ∧ (t = .int ∨ t = .boolean ∨ t = .byte ∨ t = .char ∨ t = .short) ∧ ∃ z, w = .int z) ∨ (i = .lreturn ∧ t = .long ∧ ∃ z, w = .long z) ∨ (i = .dreturn ∧ t = .double ∧ ∃ z, w = .double z) ∨ (i = .freturn ∧ t = .float ∧ ∃ z, w = .float z) ∨ (i = .areturn ∧ t.isReference = true ∧ w.isRef = true))
    (hd : decode c.code pc = .ok (i, 1)) (hQ : Q (some w) T.heap locs) (hc : cells ≤ k) (hs : slots ≤ n) : Go p e below (FinQ below s Q k n) (T.setTop (mkF m pc Ls (w :: rest))) := by
  obtain ⟨fs, hr, hrun, hended, hW, hsame⟩ := X.leave (v := some w) (fun h => by rw [hret] at h; cases h) hlocks
  exact ⟨_, retOut X hx hret hn hi hd hr, _, hrun, hended, _, _, rfl, hQ, ⟨_, rfl⟩, hW, hsame.mono hc hs⟩
theorem retGI {pc : Nat} {Ls : Array Slot} {z : Int32} {rest : List Value} {Q : Option Value → Heap → List Loc → Prop} {k n : Nat}
    (X : Stand p l e R s m args below meth c T locs cells slots) (hx : p.tables.exec = Jvm.exec) (hlocks : meth.locks = false) (hret : meth.sig.returnType = some .int)
    (hd : decode c.code pc = .ok (.ireturn, 1)) (hQ : Q (some (.int z)) T.heap locs) (hc : cells ≤ k) (hs : slots ≤ n) : Go p e below (FinQ below s Q k n) (T.setTop (mkF m pc Ls (.int z :: rest))) :=
  retG X hx hlocks hret rfl (Or.inl ⟨rfl, Or.inl rfl, _, rfl⟩) hd hQ hc hs
theorem retGJ {pc : Nat} {Ls : Array Slot} {z : Int64} {rest : List Value} {Q : Option Value → Heap → List Loc → Prop} {k n : Nat}
    (X : Stand p l e R s m args below meth c T locs cells slots) (hx : p.tables.exec = Jvm.exec) (hlocks : meth.locks = false) (hret : meth.sig.returnType = some .long)
    (hd : decode c.code pc = .ok (.lreturn, 1)) (hQ : Q (some (.long z)) T.heap locs) (hc : cells ≤ k) (hs : slots ≤ n) : Go p e below (FinQ below s Q k n) (T.setTop (mkF m pc Ls (.long z :: rest))) :=
  retG X hx hlocks hret rfl (Or.inr (Or.inl ⟨rfl, rfl, _, rfl⟩)) hd hQ hc hs
theorem retGR {pc : Nat} {Ls : Array Slot} {a : Addr} {t : FieldType} {rest : List Value} {Q : Option Value → Heap → List Loc → Prop} {k n : Nat}
    (X : Stand p l e R s m args below meth c T locs cells slots) (hx : p.tables.exec = Jvm.exec) (hlocks : meth.locks = false) (hret : meth.sig.returnType = some t) (ht : t.isReference = true) (hn : narrow t (.ref a) = .ref a)
    (hd : decode c.code pc = .ok (.areturn, 1)) (hQ : Q (some (.ref a)) T.heap locs) (hc : cells ≤ k) (hs : slots ≤ n) : Go p e below (FinQ below s Q k n) (T.setTop (mkF m pc Ls (.ref a :: rest))) :=
  retG X hx hlocks hret hn (Or.inr (Or.inr (Or.inr (Or.inr ⟨rfl, ht, rfl⟩)))) hd hQ hc hs
theorem retGN {pc : Nat} {Ls : Array Slot} {z z' : Int32} {t : FieldType} {rest : List Value} {Q : Option Value → Heap → List Loc → Prop} {k n : Nat}
    (X : Stand p l e R s m args below meth c T locs cells slots) (hx : p.tables.exec = Jvm.exec) (hlocks : meth.locks = false) (hret : meth.sig.returnType = some t) (ht : t = .boolean ∨ t = .byte ∨ t = .char ∨ t = .short) (hz : nar t z = z')
    (hd : decode c.code pc = .ok (.ireturn, 1)) (hQ : Q (some (.int z')) T.heap locs) (hc : cells ≤ k) (hs : slots ≤ n) : Go p e below (FinQ below s Q k n) (T.setTop (mkF m pc Ls (.int z :: rest))) := by
  subst hz
  obtain ⟨fs, hr, hrun, hended, hW, hsame⟩ := X.leave (v := some (.int (nar t z))) (fun h => by rw [hret] at h; cases h) hlocks
  exact ⟨_, retN X hx hret ht hd hr, _, hrun, hended, _, _, rfl, hQ, ⟨_, rfl⟩, hW, hsame.mono hc hs⟩
theorem retGV {pc : Nat} {Ls : Array Slot} {Q : Option Value → Heap → List Loc → Prop} {k n : Nat}
    (X : Stand p l e R s m args below meth c T locs cells slots) (hx : p.tables.exec = Jvm.exec) (hlocks : meth.locks = false) (hret : meth.sig.returnType = none)
    (hd : decode c.code pc = .ok (.return_, 1)) (hQ : Q none T.heap locs) (hc : cells ≤ k) (hs : slots ≤ n) : Go p e below (FinQ below s Q k n) (T.setTop (mkF m pc Ls [])) := by
  obtain ⟨fs, hr, hrun, hended, hW, hsame⟩ := X.leave (v := none) (fun _ => rfl) hlocks
  exact ⟨_, X.returnOut hx hret hd hr, _, hrun, hended, _, _, rfl, hQ, ⟨_, rfl⟩, hW, hsame.mono hc hs⟩
end New
/-- a body that writes nothing and returns r -/
def QP (r : Value) (h0 : Heap) (n0 : Nat) (v : Option Value) (h : Heap) (L : List Loc) : Prop := v = some r ∧ Fr n0 L ∧ h = h0
def QV (h0 : Heap) (n0 : Nat) (v : Option Value) (h : Heap) (L : List Loc) : Prop := v = none ∧ Fr n0 L ∧ h = h0
/-- a law: it returns r and writes nothing old -/
def QL (r : Value) (n0 : Nat) (v : Option Value) (h : Heap) (L : List Loc) : Prop := v = some r ∧ Fr n0 L
theorem remI (x y : Int32) : x - (x / y) * y = x % y := by
  rw [← Int32.toInt_inj, Int32.toInt_sub, Int32.toInt_mul, Int32.toInt_div, Int32.toInt_mod]
  have h := Int.tmod_add_mul_tdiv x.toInt y.toInt
  have r : (x.toInt.tmod y.toInt).bmod (2 ^ 32) = x.toInt.tmod y.toInt := by
    have := Int32.toInt_bmod (x % y)
    rwa [Int32.toInt_mod] at this
  rw [← r]
  have e : ((x.toInt.tdiv y.toInt).bmod (2 ^ 32) * y.toInt).bmod (2 ^ 32) = (x.toInt.tdiv y.toInt * y.toInt).bmod (2 ^ 32) := by simp
  rw [e, Int.sub_bmod_bmod]
  congr 1
  have := Int.mul_comm (x.toInt.tdiv y.toInt) y.toInt
  omega
theorem addI {x y : Int32} (h1 : -2147483648 ≤ x.toInt + y.toInt) (h2 : x.toInt + y.toInt < 2147483648) : (x + y).toInt = x.toInt + y.toInt := by have := c_iadd x y; have := rng32 (x + y); omega
theorem subI {x y : Int32} (h1 : -2147483648 ≤ x.toInt - y.toInt) (h2 : x.toInt - y.toInt < 2147483648) : (x - y).toInt = x.toInt - y.toInt := by have := c_isub x y; have := rng32 (x - y); omega
theorem mulI {x y : Int32} (h1 : -2147483648 ≤ x.toInt * y.toInt) (h2 : x.toInt * y.toInt < 2147483648) : (x * y).toInt = x.toInt * y.toInt := by have := c_imul x y; have := rng32 (x * y); omega
theorem addL {x y : Int64} (h1 : -9223372036854775808 ≤ x.toInt + y.toInt) (h2 : x.toInt + y.toInt < 9223372036854775808) : (x + y).toInt = x.toInt + y.toInt := by have := c_ladd x y; have := rng64 (x + y); omega
theorem subL {x y : Int64} (h1 : -9223372036854775808 ≤ x.toInt - y.toInt) (h2 : x.toInt - y.toInt < 9223372036854775808) : (x - y).toInt = x.toInt - y.toInt := by have := c_lsub x y; have := rng64 (x - y); omega
theorem mulL {x y : Int64} (h1 : -9223372036854775808 ≤ x.toInt * y.toInt) (h2 : x.toInt * y.toInt < 9223372036854775808) : (x * y).toInt = x.toInt * y.toInt := by have := c_lmul x y; have := rng64 (x * y); omega
theorem modI {x y : Int32} (d : Int) (hy : y.toInt = d) (hx : 0 ≤ x.toInt) : (x % y).toInt = x.toInt % d := by rw [Int32.toInt_mod, hy]; exact (tr _ _).1 hx
theorem modL {x y : Int64} (d : Int) (hy : y.toInt = d) (hx : 0 ≤ x.toInt) : (x % y).toInt = x.toInt % d := by rw [Int64.toInt_mod, hy]; exact (tr _ _).1 hx
end Jvm.OwnKit
namespace Jvm.Pilot.@@N@@
open Jvm Jvm.ClassFile Sem Op Lib Jvm.Free Jvm.Stand Jvm.LawKit Jvm.RoadKit Jvm.OwnKit Bundle Jvm.Pilot.@@N@@.Jvm.D
theorem d1_0 : decode prog_1_method_24_code 0 = .ok (.lload_n 0, 1) := by decide +kernel
theorem d1_1 : decode prog_1_method_24_code 1 = .ok (.ldc2_w 244, 3) := by decide +kernel
theorem d1_4 : decode prog_1_method_24_code 4 = .ok (.ladd, 1) := by decide +kernel
theorem d1_5 : decode prog_1_method_24_code 5 = .ok (.lconst 1, 1) := by decide +kernel
theorem d1_6 : decode prog_1_method_24_code 6 = .ok (.lsub, 1) := by decide +kernel
theorem d1_7 : decode prog_1_method_24_code 7 = .ok (.ldc2_w 244, 3) := by decide +kernel
theorem d1_10 : decode prog_1_method_24_code 10 = .ok (.ldiv, 1) := by decide +kernel
theorem d1_11 : decode prog_1_method_24_code 11 = .ok (.l2i, 1) := by decide +kernel
theorem d1_12 : decode prog_1_method_24_code 12 = .ok (.ireturn, 1) := by decide +kernel
theorem ef_1 (m : MethodId) (q1 : Int64) : entryFrame m #[(.long q1)] 2 = mkF m 0 #[.val (.long q1), .second] [] := by first | (simp [entryFrame, mkF, argsToLocals, Value.category]; done) | rfl
theorem pn_0 : plainName "com/example/arnero/arnero/BloomFilter" = true := by first | (simp [plainName, overriddenIn]; done) | decide +kernel
def f1 (q1 : Int64) : Int32 := ((((q1 + (64 : Int64)) - (1 : Int64)) / (64 : Int64)).toInt32)
set_option maxRecDepth 65536 in
set_option maxHeartbeats 40000000 in
theorem rm1 (l : Launch) (Z : State) (a0 : Array Value) (hw : ∀ d ∈ tables_1, d.before a0 Z = true) (ws : List Jvm.Cond) (q1 : Int64) (h0 : Heap) (n0 : Nat) (Z0 : n0 ≤ h0.size) :
    MetFree l (⟨"com/example/arnero/arnero/BloomFilter", "wordsFor", "(J)I"⟩ : MethodName) (head1 (Jvm.Cond.code (⟨"com/example/arnero/arnero/BloomFilter", "wordsFor", "(J)I"⟩ : MethodName) prog_1_method_24_code 2 (some .int) :: ws) ({ frames := 0, cells := 0, slots := 0, locals := 0 } : Room)) (fun a U => a = #[(.long q1)] ∧ Z.Warmed39 U.vm ∧ U.heap = h0) (fun _ _ _ _ _ => True) (fun _ U o U' => ∃ v L, o = .returned v ∧ QP (.int (f1 q1)) h0 n0 v U'.heap L ∧ FrameEnd U o U' L ({ frames := 0, cells := 0, slots := 0, locals := 0 } : Room).cells ({ frames := 0, cells := 0, slots := 0, locals := 0 } : Room).slots) := by
  refine MetFree.of_bodySF (plainFor_of_name pn_0) hisR ?_
  intro p e s m args below meth c s₁ Bd hml0 hP hK
  obtain ⟨rfl, hZ, hh⟩ := hP
  have hx := Bd.exec
  have hby := Bd.bytes
  have hml : c.maxLocals = 2 := hml0
  have hown : s.vm.findClass "com/example/arnero/arnero/BloomFilter" = some m.cls := findClass_of_methodNamed Bd.named
  have hnm := (name_of_methodNamed Bd.named Bd.method).1
  have X0 : Stand p l e ({ frames := 0, cells := 0, slots := 0, locals := 0 } : Room) s m #[(.long q1)] below meth c s₁ [] 0 0 := Stand.of_body Bd
  have e0 : s₁.heap = h0 := by rw [← hh, Bd.state]; rfl
  have N0 := Fr.nil n0
  refine Go.done (Go.step (fun t k => castTop (ef_1 m q1) k) ?_)
  show Go p e below _ (s₁.setTop (mkF m 0 #[.val (.long q1), .second] []))
  refine Go.step (fun t k => XS.lloadN X0.here hx rfl (hb hby d1_0) rfl k) ?_
  show Go p e below _ (s₁.setTop (mkF m 1 #[.val (.long q1), .second] [(.long q1)]))
  refine Go.step (X0.ldc2Long hx hown (mvT hZ (hw _ (List.mem_of_getElem? (i := 6) rfl))) (g := (mkF m 1 #[.val (.long q1), .second] [(.long q1)])) rfl (hb hby d1_1)) ?_
  show Go p e below _ (s₁.setTop (mkF m 4 #[.val (.long q1), .second] [(.long (64 : Int64)), (.long q1)]))
  refine Go.step (fun t k => XS.ladd X0.here hx rfl (hb hby d1_4) rfl k) ?_
  show Go p e below _ (s₁.setTop (mkF m 5 #[.val (.long q1), .second] [(.long (q1 + (64 : Int64)))]))
  refine Go.step (fun t k => XS.lconst X0.here hx rfl (hb hby d1_5)  k) ?_
  show Go p e below _ (s₁.setTop (mkF m 6 #[.val (.long q1), .second] [(.long (1 : Int64)), (.long (q1 + (64 : Int64)))]))
  refine Go.step (fun t k => XS.lsub X0.here hx rfl (hb hby d1_6) rfl k) ?_
  show Go p e below _ (s₁.setTop (mkF m 7 #[.val (.long q1), .second] [(.long ((q1 + (64 : Int64)) - (1 : Int64)))]))
  refine Go.step (X0.ldc2Long hx hown (mvT hZ (hw _ (List.mem_of_getElem? (i := 6) rfl))) (g := (mkF m 7 #[.val (.long q1), .second] [(.long ((q1 + (64 : Int64)) - (1 : Int64)))])) rfl (hb hby d1_7)) ?_
  show Go p e below _ (s₁.setTop (mkF m 10 #[.val (.long q1), .second] [(.long (64 : Int64)), (.long ((q1 + (64 : Int64)) - (1 : Int64)))]))
  refine Go.step (fun t k => XS.ldiv X0.here hx rfl (hb hby d1_10) rfl (by decide) k) ?_
  show Go p e below _ (s₁.setTop (mkF m 11 #[.val (.long q1), .second] [(.long (((q1 + (64 : Int64)) - (1 : Int64)) / (64 : Int64)))]))
  refine Go.step (fun t k => XS.l2i X0.here hx rfl (hb hby d1_11) rfl k) ?_
  show Go p e below _ (s₁.setTop (mkF m 12 #[.val (.long q1), .second] [(.int ((((q1 + (64 : Int64)) - (1 : Int64)) / (64 : Int64)).toInt32))]))
  exact retGI X0 hx Bd.notSynchronized Bd.returns (hb hby d1_12) ⟨by first | rfl | (simp only [f1]; done) | (simp [f1]; done), N0, e0⟩ (by decide) (by decide)
theorem pd_0 : parseMethodDescriptor "(J)I" = some ⟨[.long], some .int⟩ := by decide +kernel
theorem ef_0 (m : MethodId) (q1 : Int64) : entryFrame m #[(.long q1)] maxLocals = mkF m 0 #[.val (.long q1), .second, .unset, .unset, .unset, .unset, .unset, .unset, .unset] [] := by first | (simp [entryFrame, mkF, argsToLocals, Value.category, maxLocals]; done) | rfl
theorem pn_1 : plainName "com/example/arnero/arnero/BloomFilterWordsForPinLaw" = true := by first | (simp [plainName, overriddenIn]; done) | decide +kernel
def f0 (q1 : Int64) : Int32 := (if (if ((f1 ((q1 &&& (9223372036854775807 : Int64)) % (137438952897 : Int64))).toInt64) < (0 : Int64) then (0 : Int32) else (1 : Int32)) = (0 : Int32) then (0 : Int32) else (if (if (((f1 ((q1 &&& (9223372036854775807 : Int64)) % (137438952897 : Int64))).toInt64) * (64 : Int64)) < ((q1 &&& (9223372036854775807 : Int64)) % (137438952897 : Int64)) then (0 : Int32) else (1 : Int32)) = (0 : Int32) then (0 : Int32) else (if (if ((((f1 ((q1 &&& (9223372036854775807 : Int64)) % (137438952897 : Int64))).toInt64) - (1 : Int64)) * (64 : Int64)) < ((q1 &&& (9223372036854775807 : Int64)) % (137438952897 : Int64)) then (1 : Int32) else (0 : Int32)) = (0 : Int32) then (0 : Int32) else (1 : Int32))))
set_option maxRecDepth 65536 in
set_option maxHeartbeats 40000000 in
theorem rm0 (l : Launch) (Z : State) (a0 : Array Value) (hw : ∀ d ∈ tables_1, d.before a0 Z = true) (ws : List Jvm.Cond) (q1 : Int64) (h0 : Heap) (n0 : Nat) (Z0 : n0 ≤ h0.size) :
    MetFree l x (head1 (Jvm.Cond.code x code maxLocals ret :: ws) room_1) (fun a U => a = #[(.long q1)] ∧ Z.Warmed39 U.vm ∧ U.heap = h0) (fun _ _ _ _ _ => True) (fun _ U o U' => ∃ v L, o = .returned v ∧ QP (.int (f0 q1)) h0 n0 v U'.heap L ∧ FrameEnd U o U' L room_1.cells room_1.slots) := by
  refine MetFree.of_bodySF (plainFor_of_name pn_1) hisR ?_
  intro p e s m args below meth c s₁ Bd hml0 hP hK
  obtain ⟨rfl, hZ, hh⟩ := hP
  have hx := Bd.exec
  have hby := Bd.bytes
  have hml : c.maxLocals = 9 := hml0
  have hown : s.vm.findClass "com/example/arnero/arnero/BloomFilterWordsForPinLaw" = some m.cls := findClass_of_methodNamed Bd.named
  have hnm := (name_of_methodNamed Bd.named Bd.method).1
  have X0 : Stand p l e room_1 s m #[(.long q1)] below meth c s₁ [] 0 0 := Stand.of_body Bd
  have e0 : s₁.heap = h0 := by rw [← hh, Bd.state]; rfl
  have N0 := Fr.nil n0
  refine Go.done (Go.step (fun t k => castTop (ef_0 m q1) k) ?_)
  show Go p e below _ (s₁.setTop (mkF m 0 #[.val (.long q1), .second, .unset, .unset, .unset, .unset, .unset, .unset, .unset] []))
  refine Go.step (fun t k => XS.lloadN X0.here hx rfl (hb hby at_0) rfl k) ?_
  show Go p e below _ (s₁.setTop (mkF m 1 #[.val (.long q1), .second, .unset, .unset, .unset, .unset, .unset, .unset, .unset] [(.long q1)]))
  refine Go.step (X0.ldc2Long hx hown (mvT hZ (hw _ (List.mem_of_getElem? (i := 0) rfl))) (g := (mkF m 1 #[.val (.long q1), .second, .unset, .unset, .unset, .unset, .unset, .unset, .unset] [(.long q1)])) rfl (hb hby at_1)) ?_
  show Go p e below _ (s₁.setTop (mkF m 4 #[.val (.long q1), .second, .unset, .unset, .unset, .unset, .unset, .unset, .unset] [(.long (9223372036854775807 : Int64)), (.long q1)]))
  refine Go.step (fun t k => XS.land X0.here hx rfl (hb hby at_4) rfl k) ?_
  show Go p e below _ (s₁.setTop (mkF m 5 #[.val (.long q1), .second, .unset, .unset, .unset, .unset, .unset, .unset, .unset] [(.long (q1 &&& (9223372036854775807 : Int64)))]))
  refine Go.step (X0.ldc2Long hx hown (mvT hZ (hw _ (List.mem_of_getElem? (i := 1) rfl))) (g := (mkF m 5 #[.val (.long q1), .second, .unset, .unset, .unset, .unset, .unset, .unset, .unset] [(.long (q1 &&& (9223372036854775807 : Int64)))])) rfl (hb hby at_5)) ?_
  show Go p e below _ (s₁.setTop (mkF m 8 #[.val (.long q1), .second, .unset, .unset, .unset, .unset, .unset, .unset, .unset] [(.long (137438952897 : Int64)), (.long (q1 &&& (9223372036854775807 : Int64)))]))
  refine Go.step (fun t (k : Steps p.tables e below (s₁.setTop (mkF m 9 #[.val (.long q1), .second, .unset, .unset, .unset, .unset, .unset, .unset, .unset] [(.long ((q1 &&& (9223372036854775807 : Int64)) % (137438952897 : Int64)))])) t) => XS.lrem X0.here hx rfl (hb hby at_8) rfl (by decide) (by rw [lrem_mod]; exact k)) ?_
  show Go p e below _ (s₁.setTop (mkF m 9 #[.val (.long q1), .second, .unset, .unset, .unset, .unset, .unset, .unset, .unset] [(.long ((q1 &&& (9223372036854775807 : Int64)) % (137438952897 : Int64)))]))
  obtain ⟨v2, hv2⟩ : ∃ z : Int64, z = ((q1 &&& (9223372036854775807 : Int64)) % (137438952897 : Int64)) := ⟨_, rfl⟩
  rw [← hv2]
  show Go p e below _ (s₁.setTop (mkF m 9 #[.val (.long q1), .second, .unset, .unset, .unset, .unset, .unset, .unset, .unset] [(.long v2)]))
  refine Go.step (fun t k => XS.lstoreN X0.here hx rfl (hb hby at_9) rfl (l' := #[.val (.long q1), .second, .val (.long v2), .second, .unset, .unset, .unset, .unset, .unset]) rfl k) ?_
  show Go p e below _ (s₁.setTop (mkF m 10 #[.val (.long q1), .second, .val (.long v2), .second, .unset, .unset, .unset, .unset, .unset] []))
  refine Go.step (fun t k => XS.lloadN X0.here hx rfl (hb hby at_10) rfl k) ?_
  show Go p e below _ (s₁.setTop (mkF m 11 #[.val (.long q1), .second, .val (.long v2), .second, .unset, .unset, .unset, .unset, .unset] [(.long v2)]))
  obtain ⟨_, _, ⟨T3, L3, k3, n3⟩, -, X3, ⟨Lc3, hQ3, l3, y3, z3⟩, st3⟩ := Jvm.LawKit.callS X0 hx (y := (⟨"com/example/arnero/arnero/BloomFilter", "wordsFor", "(J)I"⟩ : MethodName)) hown (mvT hZ (hw _ (List.mem_of_getElem? (i := 2) rfl))) (mvT hZ (hw _ (List.mem_of_getElem? (i := 3) rfl))) (mvT hZ (hw _ (List.mem_of_getElem? (i := 4) rfl))) (mvT hZ (hw _ (List.mem_of_getElem? (i := 5) rfl))) (by decide) (backOf (W := 0) (rm1 l Z a0 hw [] v2 h0 n0 Z0) hZ (hw _ (List.mem_of_getElem? (i := 5) rfl)) (hw _ (List.mem_of_getElem? (i := 4) rfl)) (by decide) (by decide)) (g := (mkF m 11 #[.val (.long q1), .second, .val (.long v2), .second, .unset, .unset, .unset, .unset, .unset] [(.long v2)])) rfl (by rw [hml]; rfl) (argsL := [(.long v2)]) (rest := []) (lenOf pd_0 rfl) rfl (by show 2 * 0 + _ ≤ _; exact Nat.le_of_eq rfl) (hb hby at_11) (fun _ _ => ⟨rfl, e0, (by decide : 0 + 0 ≤ _), (by decide : 0 + 0 ≤ _)⟩)
  dsimp only [Pt.U, Pt.locs, Pt.cells, Pt.slots] at X3 l3 y3 z3 st3 hQ3
  subst l3 y3 z3
  obtain ⟨rfl, N3q, e3⟩ := hQ3
  have N3 := Fr.app N0 N3q
  refine Go.step st3 ?_
  show Go p e below _ (T3.setTop (mkF m 14 #[.val (.long q1), .second, .val (.long v2), .second, .unset, .unset, .unset, .unset, .unset] [(.int (f1 v2))]))
  refine Go.step (fun t k => XS.i2l X3.here hx rfl (hb hby at_14) rfl k) ?_
  show Go p e below _ (T3.setTop (mkF m 15 #[.val (.long q1), .second, .val (.long v2), .second, .unset, .unset, .unset, .unset, .unset] [(.long ((f1 v2).toInt64))]))
  obtain ⟨v4, hv4⟩ : ∃ z : Int64, z = ((f1 v2).toInt64) := ⟨_, rfl⟩
  rw [← hv4]
  show Go p e below _ (T3.setTop (mkF m 15 #[.val (.long q1), .second, .val (.long v2), .second, .unset, .unset, .unset, .unset, .unset] [(.long v4)]))
  refine Go.step (fun t k => XS.lstore X3.here hx rfl (hb hby at_15) rfl (l' := #[.val (.long q1), .second, .val (.long v2), .second, .val (.long v4), .second, .unset, .unset, .unset]) rfl k) ?_
  show Go p e below _ (T3.setTop (mkF m 17 #[.val (.long q1), .second, .val (.long v2), .second, .val (.long v4), .second, .unset, .unset, .unset] []))
  refine Go.step (fun t k => XS.lload X3.here hx rfl (hb hby at_17) rfl k) ?_
  show Go p e below _ (T3.setTop (mkF m 19 #[.val (.long q1), .second, .val (.long v2), .second, .val (.long v4), .second, .unset, .unset, .unset] [(.long v4)]))
  refine Go.step (fun t k => XS.lconst X3.here hx rfl (hb hby at_19)  k) ?_
  show Go p e below _ (T3.setTop (mkF m 20 #[.val (.long q1), .second, .val (.long v2), .second, .val (.long v4), .second, .unset, .unset, .unset] [(.long (0 : Int64)), (.long v4)]))
  refine Go.step (fun t k => XS.lcmp X3.here hx rfl (hb hby at_20) rfl k) ?_
  show Go p e below _ (T3.setTop (mkF m 21 #[.val (.long q1), .second, .val (.long v2), .second, .val (.long v4), .second, .unset, .unset, .unset] [(.int (lcmpW v4 (0 : Int64)))]))
  obtain ⟨v6, hv6⟩ : ∃ z : Int32, z = (if v4 < (0 : Int64) then (0 : Int32) else (1 : Int32)) := ⟨_, rfl⟩
  have J21 : Go p e below (AtF p l e room_1 s m #[(.long q1)] below meth c n0 0 0 h0 (mkF m 29 #[.val (.long q1), .second, .val (.long v2), .second, .val (.long v4), .second, .unset, .unset, .unset] [(.int v6)])) (T3.setTop (mkF m 21 #[.val (.long q1), .second, .val (.long v2), .second, .val (.long v4), .second, .unset, .unset, .unset] [(.int (lcmpW v4 (0 : Int64)))])) := by
    by_cases hc5 : v4 < (0 : Int64)
    · refine Go.step (fun t k => XS.ifYes X3.here hx rfl (pc0 := 21) (pc' := 28) rfl (hb hby at_21) rfl ((if0 _ _).trans (tlt ((lw_lt _ _).mpr hc5)).1) (by decide) (by decide) k) ?_
      show Go p e below _ (T3.setTop (mkF m 28 #[.val (.long q1), .second, .val (.long v2), .second, .val (.long v4), .second, .unset, .unset, .unset] []))
      refine Go.step (fun t k => XS.iconst X3.here hx rfl (hb hby at_28)  k) ?_
      show Go p e below _ (T3.setTop (mkF m 29 #[.val (.long q1), .second, .val (.long v2), .second, .val (.long v4), .second, .unset, .unset, .unset] [(.int (0 : Int32))]))
      exact Go.here ⟨_, _, by simp only [hv6, if_pos hc5], X3, N3, e3⟩
    · refine Go.step (fun t k => XS.ifNo X3.here hx rfl (hb hby at_21) rfl ((if0 _ _).trans (flt (fun q => hc5 ((lw_lt _ _).mp q))).1) k) ?_
      show Go p e below _ (T3.setTop (mkF m 24 #[.val (.long q1), .second, .val (.long v2), .second, .val (.long v4), .second, .unset, .unset, .unset] []))
      refine Go.step (fun t k => XS.iconst X3.here hx rfl (hb hby at_24)  k) ?_
      show Go p e below _ (T3.setTop (mkF m 25 #[.val (.long q1), .second, .val (.long v2), .second, .val (.long v4), .second, .unset, .unset, .unset] [(.int (1 : Int32))]))
      refine Go.step (fun t k => XS.goto X3.here hx rfl (pc0 := 25) (pc' := 29) rfl (hb hby at_25) (by decide) (by decide) k) ?_
      show Go p e below _ (T3.setTop (mkF m 29 #[.val (.long q1), .second, .val (.long v2), .second, .val (.long v4), .second, .unset, .unset, .unset] [(.int (1 : Int32))]))
      exact Go.here ⟨_, _, by simp only [hv6, if_neg hc5], X3, N3, e3⟩
  obtain ⟨_, st7, T7, Lj7, rfl, X7, N7, e7⟩ := J21
  refine Go.trans st7 ?_
  show Go p e below _ (T7.setTop (mkF m 29 #[.val (.long q1), .second, .val (.long v2), .second, .val (.long v4), .second, .unset, .unset, .unset] [(.int v6)]))
  refine Go.step (fun t k => XS.istore X7.here hx rfl (hb hby at_29) rfl (l' := #[.val (.long q1), .second, .val (.long v2), .second, .val (.long v4), .second, .val (.int v6), .unset, .unset]) rfl k) ?_
  show Go p e below _ (T7.setTop (mkF m 31 #[.val (.long q1), .second, .val (.long v2), .second, .val (.long v4), .second, .val (.int v6), .unset, .unset] []))
  refine Go.step (fun t k => XS.lload X7.here hx rfl (hb hby at_31) rfl k) ?_
  show Go p e below _ (T7.setTop (mkF m 33 #[.val (.long q1), .second, .val (.long v2), .second, .val (.long v4), .second, .val (.int v6), .unset, .unset] [(.long v4)]))
  refine Go.step (X7.ldc2Long hx hown (mvT hZ (hw _ (List.mem_of_getElem? (i := 7) rfl))) (g := (mkF m 33 #[.val (.long q1), .second, .val (.long v2), .second, .val (.long v4), .second, .val (.int v6), .unset, .unset] [(.long v4)])) rfl (hb hby at_33)) ?_
  show Go p e below _ (T7.setTop (mkF m 36 #[.val (.long q1), .second, .val (.long v2), .second, .val (.long v4), .second, .val (.int v6), .unset, .unset] [(.long (64 : Int64)), (.long v4)]))
  refine Go.step (fun t k => XS.lmul X7.here hx rfl (hb hby at_36) rfl k) ?_
  show Go p e below _ (T7.setTop (mkF m 37 #[.val (.long q1), .second, .val (.long v2), .second, .val (.long v4), .second, .val (.int v6), .unset, .unset] [(.long (v4 * (64 : Int64)))]))
  refine Go.step (fun t k => XS.lloadN X7.here hx rfl (hb hby at_37) rfl k) ?_
  show Go p e below _ (T7.setTop (mkF m 38 #[.val (.long q1), .second, .val (.long v2), .second, .val (.long v4), .second, .val (.int v6), .unset, .unset] [(.long v2), (.long (v4 * (64 : Int64)))]))
  refine Go.step (fun t k => XS.lcmp X7.here hx rfl (hb hby at_38) rfl k) ?_
  show Go p e below _ (T7.setTop (mkF m 39 #[.val (.long q1), .second, .val (.long v2), .second, .val (.long v4), .second, .val (.int v6), .unset, .unset] [(.int (lcmpW (v4 * (64 : Int64)) v2))]))
  obtain ⟨v9, hv9⟩ : ∃ z : Int32, z = (if (v4 * (64 : Int64)) < v2 then (0 : Int32) else (1 : Int32)) := ⟨_, rfl⟩
  have J39 : Go p e below (AtF p l e room_1 s m #[(.long q1)] below meth c n0 0 0 h0 (mkF m 47 #[.val (.long q1), .second, .val (.long v2), .second, .val (.long v4), .second, .val (.int v6), .unset, .unset] [(.int v9)])) (T7.setTop (mkF m 39 #[.val (.long q1), .second, .val (.long v2), .second, .val (.long v4), .second, .val (.int v6), .unset, .unset] [(.int (lcmpW (v4 * (64 : Int64)) v2))])) := by
    by_cases hc8 : (v4 * (64 : Int64)) < v2
    · refine Go.step (fun t k => XS.ifYes X7.here hx rfl (pc0 := 39) (pc' := 46) rfl (hb hby at_39) rfl ((if0 _ _).trans (tlt ((lw_lt _ _).mpr hc8)).1) (by decide) (by decide) k) ?_
      show Go p e below _ (T7.setTop (mkF m 46 #[.val (.long q1), .second, .val (.long v2), .second, .val (.long v4), .second, .val (.int v6), .unset, .unset] []))
      refine Go.step (fun t k => XS.iconst X7.here hx rfl (hb hby at_46)  k) ?_
      show Go p e below _ (T7.setTop (mkF m 47 #[.val (.long q1), .second, .val (.long v2), .second, .val (.long v4), .second, .val (.int v6), .unset, .unset] [(.int (0 : Int32))]))
      exact Go.here ⟨_, _, by simp only [hv9, if_pos hc8], X7, N7, e7⟩
    · refine Go.step (fun t k => XS.ifNo X7.here hx rfl (hb hby at_39) rfl ((if0 _ _).trans (flt (fun q => hc8 ((lw_lt _ _).mp q))).1) k) ?_
      show Go p e below _ (T7.setTop (mkF m 42 #[.val (.long q1), .second, .val (.long v2), .second, .val (.long v4), .second, .val (.int v6), .unset, .unset] []))
      refine Go.step (fun t k => XS.iconst X7.here hx rfl (hb hby at_42)  k) ?_
      show Go p e below _ (T7.setTop (mkF m 43 #[.val (.long q1), .second, .val (.long v2), .second, .val (.long v4), .second, .val (.int v6), .unset, .unset] [(.int (1 : Int32))]))
      refine Go.step (fun t k => XS.goto X7.here hx rfl (pc0 := 43) (pc' := 47) rfl (hb hby at_43) (by decide) (by decide) k) ?_
      show Go p e below _ (T7.setTop (mkF m 47 #[.val (.long q1), .second, .val (.long v2), .second, .val (.long v4), .second, .val (.int v6), .unset, .unset] [(.int (1 : Int32))]))
      exact Go.here ⟨_, _, by simp only [hv9, if_neg hc8], X7, N7, e7⟩
  obtain ⟨_, st10, T10, Lj10, rfl, X10, N10, e10⟩ := J39
  refine Go.trans st10 ?_
  show Go p e below _ (T10.setTop (mkF m 47 #[.val (.long q1), .second, .val (.long v2), .second, .val (.long v4), .second, .val (.int v6), .unset, .unset] [(.int v9)]))
  refine Go.step (fun t k => XS.istore X10.here hx rfl (hb hby at_47) rfl (l' := #[.val (.long q1), .second, .val (.long v2), .second, .val (.long v4), .second, .val (.int v6), .val (.int v9), .unset]) rfl k) ?_
  show Go p e below _ (T10.setTop (mkF m 49 #[.val (.long q1), .second, .val (.long v2), .second, .val (.long v4), .second, .val (.int v6), .val (.int v9), .unset] []))
  refine Go.step (fun t k => XS.lload X10.here hx rfl (hb hby at_49) rfl k) ?_
  show Go p e below _ (T10.setTop (mkF m 51 #[.val (.long q1), .second, .val (.long v2), .second, .val (.long v4), .second, .val (.int v6), .val (.int v9), .unset] [(.long v4)]))
  refine Go.step (fun t k => XS.lconst X10.here hx rfl (hb hby at_51)  k) ?_
  show Go p e below _ (T10.setTop (mkF m 52 #[.val (.long q1), .second, .val (.long v2), .second, .val (.long v4), .second, .val (.int v6), .val (.int v9), .unset] [(.long (1 : Int64)), (.long v4)]))
  refine Go.step (fun t k => XS.lsub X10.here hx rfl (hb hby at_52) rfl k) ?_
  show Go p e below _ (T10.setTop (mkF m 53 #[.val (.long q1), .second, .val (.long v2), .second, .val (.long v4), .second, .val (.int v6), .val (.int v9), .unset] [(.long (v4 - (1 : Int64)))]))
  refine Go.step (X10.ldc2Long hx hown (mvT hZ (hw _ (List.mem_of_getElem? (i := 7) rfl))) (g := (mkF m 53 #[.val (.long q1), .second, .val (.long v2), .second, .val (.long v4), .second, .val (.int v6), .val (.int v9), .unset] [(.long (v4 - (1 : Int64)))])) rfl (hb hby at_53)) ?_
  show Go p e below _ (T10.setTop (mkF m 56 #[.val (.long q1), .second, .val (.long v2), .second, .val (.long v4), .second, .val (.int v6), .val (.int v9), .unset] [(.long (64 : Int64)), (.long (v4 - (1 : Int64)))]))
  refine Go.step (fun t k => XS.lmul X10.here hx rfl (hb hby at_56) rfl k) ?_
  show Go p e below _ (T10.setTop (mkF m 57 #[.val (.long q1), .second, .val (.long v2), .second, .val (.long v4), .second, .val (.int v6), .val (.int v9), .unset] [(.long ((v4 - (1 : Int64)) * (64 : Int64)))]))
  refine Go.step (fun t k => XS.lloadN X10.here hx rfl (hb hby at_57) rfl k) ?_
  show Go p e below _ (T10.setTop (mkF m 58 #[.val (.long q1), .second, .val (.long v2), .second, .val (.long v4), .second, .val (.int v6), .val (.int v9), .unset] [(.long v2), (.long ((v4 - (1 : Int64)) * (64 : Int64)))]))
  refine Go.step (fun t k => XS.lcmp X10.here hx rfl (hb hby at_58) rfl k) ?_
  show Go p e below _ (T10.setTop (mkF m 59 #[.val (.long q1), .second, .val (.long v2), .second, .val (.long v4), .second, .val (.int v6), .val (.int v9), .unset] [(.int (lcmpW ((v4 - (1 : Int64)) * (64 : Int64)) v2))]))
  obtain ⟨v12, hv12⟩ : ∃ z : Int32, z = (if ((v4 - (1 : Int64)) * (64 : Int64)) < v2 then (1 : Int32) else (0 : Int32)) := ⟨_, rfl⟩
  have J59 : Go p e below (AtF p l e room_1 s m #[(.long q1)] below meth c n0 0 0 h0 (mkF m 67 #[.val (.long q1), .second, .val (.long v2), .second, .val (.long v4), .second, .val (.int v6), .val (.int v9), .unset] [(.int v12)])) (T10.setTop (mkF m 59 #[.val (.long q1), .second, .val (.long v2), .second, .val (.long v4), .second, .val (.int v6), .val (.int v9), .unset] [(.int (lcmpW ((v4 - (1 : Int64)) * (64 : Int64)) v2))])) := by
    by_cases hc11 : ((v4 - (1 : Int64)) * (64 : Int64)) < v2
    · refine Go.step (fun t k => XS.ifNo X10.here hx rfl (hb hby at_59) rfl ((if0 _ _).trans (tlt ((lw_lt _ _).mpr hc11)).2.1) k) ?_
      show Go p e below _ (T10.setTop (mkF m 62 #[.val (.long q1), .second, .val (.long v2), .second, .val (.long v4), .second, .val (.int v6), .val (.int v9), .unset] []))
      refine Go.step (fun t k => XS.iconst X10.here hx rfl (hb hby at_62)  k) ?_
      show Go p e below _ (T10.setTop (mkF m 63 #[.val (.long q1), .second, .val (.long v2), .second, .val (.long v4), .second, .val (.int v6), .val (.int v9), .unset] [(.int (1 : Int32))]))
      refine Go.step (fun t k => XS.goto X10.here hx rfl (pc0 := 63) (pc' := 67) rfl (hb hby at_63) (by decide) (by decide) k) ?_
      show Go p e below _ (T10.setTop (mkF m 67 #[.val (.long q1), .second, .val (.long v2), .second, .val (.long v4), .second, .val (.int v6), .val (.int v9), .unset] [(.int (1 : Int32))]))
      exact Go.here ⟨_, _, by simp only [hv12, if_pos hc11], X10, N10, e10⟩
    · refine Go.step (fun t k => XS.ifYes X10.here hx rfl (pc0 := 59) (pc' := 66) rfl (hb hby at_59) rfl ((if0 _ _).trans (flt (fun q => hc11 ((lw_lt _ _).mp q))).2.1) (by decide) (by decide) k) ?_
      show Go p e below _ (T10.setTop (mkF m 66 #[.val (.long q1), .second, .val (.long v2), .second, .val (.long v4), .second, .val (.int v6), .val (.int v9), .unset] []))
      refine Go.step (fun t k => XS.iconst X10.here hx rfl (hb hby at_66)  k) ?_
      show Go p e below _ (T10.setTop (mkF m 67 #[.val (.long q1), .second, .val (.long v2), .second, .val (.long v4), .second, .val (.int v6), .val (.int v9), .unset] [(.int (0 : Int32))]))
      exact Go.here ⟨_, _, by simp only [hv12, if_neg hc11], X10, N10, e10⟩
  obtain ⟨_, st13, T13, Lj13, rfl, X13, N13, e13⟩ := J59
  refine Go.trans st13 ?_
  show Go p e below _ (T13.setTop (mkF m 67 #[.val (.long q1), .second, .val (.long v2), .second, .val (.long v4), .second, .val (.int v6), .val (.int v9), .unset] [(.int v12)]))
  refine Go.step (fun t k => XS.istore X13.here hx rfl (hb hby at_67) rfl (l' := #[.val (.long q1), .second, .val (.long v2), .second, .val (.long v4), .second, .val (.int v6), .val (.int v9), .val (.int v12)]) rfl k) ?_
  show Go p e below _ (T13.setTop (mkF m 69 #[.val (.long q1), .second, .val (.long v2), .second, .val (.long v4), .second, .val (.int v6), .val (.int v9), .val (.int v12)] []))
  refine Go.step (fun t k => XS.iload X13.here hx rfl (hb hby at_69) rfl k) ?_
  show Go p e below _ (T13.setTop (mkF m 71 #[.val (.long q1), .second, .val (.long v2), .second, .val (.long v4), .second, .val (.int v6), .val (.int v9), .val (.int v12)] [(.int v6)]))
  by_cases hc14 : v6 = (0 : Int32)
  · refine Go.step (fun t k => XS.ifYes X13.here hx rfl (pc0 := 71) (pc' := 88) rfl (hb hby at_71) rfl ((if0 _ _).trans (teq hc14).1) (by decide) (by decide) k) ?_
    show Go p e below _ (T13.setTop (mkF m 88 #[.val (.long q1), .second, .val (.long v2), .second, .val (.long v4), .second, .val (.int v6), .val (.int v9), .val (.int v12)] []))
    refine Go.step (fun t k => XS.iconst X13.here hx rfl (hb hby at_88)  k) ?_
    show Go p e below _ (T13.setTop (mkF m 89 #[.val (.long q1), .second, .val (.long v2), .second, .val (.long v4), .second, .val (.int v6), .val (.int v9), .val (.int v12)] [(.int (0 : Int32))]))
    subst hv12
    subst hv9
    subst hv6
    subst hv4
    subst hv2
    exact retGN X13 hx Bd.notSynchronized Bd.returns (t := .boolean) (by simp) (z' := (0 : Int32)) rfl (hb hby at_89) ⟨by first | (simp only [f0, if_pos hc14]; done) | rfl | (simp [f0, if_pos hc14]; done), N13, e13⟩ (by decide) (by decide)
  · refine Go.step (fun t k => XS.ifNo X13.here hx rfl (hb hby at_71) rfl ((if0 _ _).trans (feq hc14).1) k) ?_
    show Go p e below _ (T13.setTop (mkF m 74 #[.val (.long q1), .second, .val (.long v2), .second, .val (.long v4), .second, .val (.int v6), .val (.int v9), .val (.int v12)] []))
    refine Go.step (fun t k => XS.iload X13.here hx rfl (hb hby at_74) rfl k) ?_
    show Go p e below _ (T13.setTop (mkF m 76 #[.val (.long q1), .second, .val (.long v2), .second, .val (.long v4), .second, .val (.int v6), .val (.int v9), .val (.int v12)] [(.int v9)]))
    by_cases hc15 : v9 = (0 : Int32)
    · refine Go.step (fun t k => XS.ifYes X13.here hx rfl (pc0 := 76) (pc' := 88) rfl (hb hby at_76) rfl ((if0 _ _).trans (teq hc15).1) (by decide) (by decide) k) ?_
      show Go p e below _ (T13.setTop (mkF m 88 #[.val (.long q1), .second, .val (.long v2), .second, .val (.long v4), .second, .val (.int v6), .val (.int v9), .val (.int v12)] []))
      refine Go.step (fun t k => XS.iconst X13.here hx rfl (hb hby at_88)  k) ?_
      show Go p e below _ (T13.setTop (mkF m 89 #[.val (.long q1), .second, .val (.long v2), .second, .val (.long v4), .second, .val (.int v6), .val (.int v9), .val (.int v12)] [(.int (0 : Int32))]))
      subst hv12
      subst hv9
      subst hv6
      subst hv4
      subst hv2
      exact retGN X13 hx Bd.notSynchronized Bd.returns (t := .boolean) (by simp) (z' := (0 : Int32)) rfl (hb hby at_89) ⟨by first | (simp only [f0, if_neg hc14, if_pos hc15]; done) | rfl | (simp [f0, if_neg hc14, if_pos hc15]; done), N13, e13⟩ (by decide) (by decide)
    · refine Go.step (fun t k => XS.ifNo X13.here hx rfl (hb hby at_76) rfl ((if0 _ _).trans (feq hc15).1) k) ?_
      show Go p e below _ (T13.setTop (mkF m 79 #[.val (.long q1), .second, .val (.long v2), .second, .val (.long v4), .second, .val (.int v6), .val (.int v9), .val (.int v12)] []))
      refine Go.step (fun t k => XS.iload X13.here hx rfl (hb hby at_79) rfl k) ?_
      show Go p e below _ (T13.setTop (mkF m 81 #[.val (.long q1), .second, .val (.long v2), .second, .val (.long v4), .second, .val (.int v6), .val (.int v9), .val (.int v12)] [(.int v12)]))
      by_cases hc16 : v12 = (0 : Int32)
      · refine Go.step (fun t k => XS.ifYes X13.here hx rfl (pc0 := 81) (pc' := 88) rfl (hb hby at_81) rfl ((if0 _ _).trans (teq hc16).1) (by decide) (by decide) k) ?_
        show Go p e below _ (T13.setTop (mkF m 88 #[.val (.long q1), .second, .val (.long v2), .second, .val (.long v4), .second, .val (.int v6), .val (.int v9), .val (.int v12)] []))
        refine Go.step (fun t k => XS.iconst X13.here hx rfl (hb hby at_88)  k) ?_
        show Go p e below _ (T13.setTop (mkF m 89 #[.val (.long q1), .second, .val (.long v2), .second, .val (.long v4), .second, .val (.int v6), .val (.int v9), .val (.int v12)] [(.int (0 : Int32))]))
        subst hv12
        subst hv9
        subst hv6
        subst hv4
        subst hv2
        exact retGN X13 hx Bd.notSynchronized Bd.returns (t := .boolean) (by simp) (z' := (0 : Int32)) rfl (hb hby at_89) ⟨by first | (simp only [f0, if_neg hc14, if_neg hc15, if_pos hc16]; done) | rfl | (simp [f0, if_neg hc14, if_neg hc15, if_pos hc16]; done), N13, e13⟩ (by decide) (by decide)
      · refine Go.step (fun t k => XS.ifNo X13.here hx rfl (hb hby at_81) rfl ((if0 _ _).trans (feq hc16).1) k) ?_
        show Go p e below _ (T13.setTop (mkF m 84 #[.val (.long q1), .second, .val (.long v2), .second, .val (.long v4), .second, .val (.int v6), .val (.int v9), .val (.int v12)] []))
        refine Go.step (fun t k => XS.iconst X13.here hx rfl (hb hby at_84)  k) ?_
        show Go p e below _ (T13.setTop (mkF m 85 #[.val (.long q1), .second, .val (.long v2), .second, .val (.long v4), .second, .val (.int v6), .val (.int v9), .val (.int v12)] [(.int (1 : Int32))]))
        refine Go.step (fun t k => XS.goto X13.here hx rfl (pc0 := 85) (pc' := 89) rfl (hb hby at_85) (by decide) (by decide) k) ?_
        show Go p e below _ (T13.setTop (mkF m 89 #[.val (.long q1), .second, .val (.long v2), .second, .val (.long v4), .second, .val (.int v6), .val (.int v9), .val (.int v12)] [(.int (1 : Int32))]))
        subst hv12
        subst hv9
        subst hv6
        subst hv4
        subst hv2
        exact retGN X13 hx Bd.notSynchronized Bd.returns (t := .boolean) (by simp) (z' := (1 : Int32)) rfl (hb hby at_89) ⟨by first | (simp only [f0, if_neg hc14, if_neg hc15, if_neg hc16]; done) | rfl | (simp [f0, if_neg hc14, if_neg hc15, if_neg hc16]; done), N13, e13⟩ (by decide) (by decide)

theorem law_true (x : Int64) : f0 x = 1 := by
  have h1 : 0 ≤ (x &&& (9223372036854775807 : Int64)).toInt := by
    have := c_maskL x 9223372036854775807 63 (by decide) (by decide)
    omega
  have h2 := (tr (x &&& (9223372036854775807 : Int64)).toInt 137438952897).1 h1
  have e0 : ((x &&& (9223372036854775807 : Int64)) % (137438952897 : Int64)).toInt = (x &&& (9223372036854775807 : Int64)).toInt % 137438952897 := by
    rw [Int64.toInt_mod, ← h2]; rfl
  have e1 : 0 ≤ ((x &&& (9223372036854775807 : Int64)) % (137438952897 : Int64)).toInt ∧ ((x &&& (9223372036854775807 : Int64)) % (137438952897 : Int64)).toInt < 137438952897 := by rw [e0]; omega
  simp only [f0]
  generalize (x &&& (9223372036854775807 : Int64)) % (137438952897 : Int64) = n at e1
  have k1 := c_ladd n 64
  have k2 := c_lsub (n + 64) 1
  have r1 := rng64 (n + 64)
  have r2 := rng64 (n + 64 - 1)
  have l64 : (64 : Int64).toInt = 64 := by decide
  have l1 : (1 : Int64).toInt = 1 := by decide
  have l0 : (0 : Int64).toInt = 0 := by decide
  have k3 := c_ldiv (n + 64 - 1) 64 64 l64 (by decide)
  have k4 := c_l2i ((n + 64 - 1) / 64)
  have r4 := rng32 ((n + 64 - 1) / 64).toInt32
  have k5 := c_i2l ((n + 64 - 1) / 64).toInt32
  have hw : (f1 n).toInt64.toInt = (n.toInt + 63) / 64 := by
    show (((n + 64 - 1) / 64).toInt32).toInt64.toInt = _
    have := k3.1 (by omega)
    omega
  generalize (f1 n).toInt64 = w at hw
  have k6 := c_lmul w 64
  have r6 := rng64 (w * 64)
  have k7 := c_lsub w 1
  have r7 := rng64 (w - 1)
  have k8 := c_lmul (w - 1) 64
  have r8 := rng64 ((w - 1) * 64)
  rw [l64] at k6 k8
  rw [l1] at k7
  have a1 : ¬ (w < (0 : Int64)) := by rw [Int64.lt_iff_toInt_lt, l0]; omega
  have a2 : ¬ (w * (64 : Int64) < n) := by rw [Int64.lt_iff_toInt_lt]; omega
  have a3 : (w - (1 : Int64)) * (64 : Int64) < n := by rw [Int64.lt_iff_toInt_lt]; omega
  rw [if_neg a1, if_neg a2, if_pos a3]
  decide

set_option maxRecDepth 65536 in
set_option maxHeartbeats 40000000 in
theorem comes_1 {Post : Tables → Env → Array Value → State → Outcome → State → Prop} (hpost : ∀ tb e args s v u, (limb_1_1.after args s (.returned v) u = true ∧ limb_1_2.after args s (.returned v) u = true ∧ True) → FrameEnd s (.returned v) u (Jvm.fieldLocs frame_1_writes args s ++ Jvm.arrayLocs frame_1_arrays args s ++ Jvm.staticLocs frame_1_statics s) 0 0 → Post tb e args s (.returned v) u) :
    ArmFor flags0 classFile x code maxLocals ret World_1 tables_1 room_1 Calls_1 rest_1 Pre_1 Post := by
  intro l hfl _ _ p e ha hc hk s m args below hf hA hF happ hP
  obtain ⟨hcalls, hrest, hpre⟩ := hP
  obtain ⟨-, -, -, hnamed, -, -, -, hat⟩ := (Spec.applies_iff hf).mp happ
  obtain ⟨hg, hn⟩ := and_e (Cond.before_iff.mp (show (Jvm.Cond.and given_1 narrow_1).before args s = true from hpre))
  obtain ⟨g0, hg⟩ := and_e hg
  have ga0 := hg
  obtain ⟨w0, rfl⟩ : ∃ w0 : Value, args = #[w0] := by
    have hs : args.size = 1 := by simpa [Cond.value, given_1] using g0
    obtain ⟨L⟩ := args
    match L, hs with
    | [w0], _ => exact ⟨w0, rfl⟩
  have hw := fun d (hd : d ∈ tables_1) => atoms_spec (ws := Jvm.Cond.code x code maxLocals ret :: tables_1) hat d (List.mem_cons_of_mem _ hd)
  have hfit : Fit s := fun {y c} hc i hi => by
    obtain ⟨ha, rfl⟩ := Array.getElem?_eq_some_iff.mp hc
    have q := List.all_eq_true.mp ((Array.all_eq_true_iff_forall_mem.mp hF) _ (Array.getElem_mem ha)) i (List.mem_range.mpr hi)
    simpa [Array.getElem?_eq_getElem hi] using q
  obtain ⟨i0, ei0⟩ := isL_v ga0
  obtain rfl : w0 = (.long i0) := Option.some.inj ei0
  obtain ⟨n, o, h1, h2, h3, v, L, rfl, hQ, hq⟩ := rm0 l s _ hw tables_1 i0  s.heap s.heap.size (Nat.le_refl _)  p e ha hc hk s m _ below hf ((Spec.applies_iff_loose hf).mp happ).1 ⟨rfl, State.Warmed39.refl s, rfl⟩ trivial
  obtain ⟨hv, N, -⟩ := hQ
  rw [law_true i0] at hv
  subst hv
  refine ⟨n, _, h1, h2, h3, hpost _ _ _ _ _ _ ⟨Cond.after_iff.mpr rfl, Cond.after_iff.mpr (eq_i res_at (Term.int_eval (1)) rfl), trivial⟩ ⟨hq.1, hq.2.1, (hq.2.2.sift fun y hy => Or.inr (N y hy)).mono (by decide) (by decide)⟩⟩
theorem main_1_1 : Claimed_1_1 := comes_1 fun _ _ _ _ _ _ h hF => ⟨h.1, hF⟩
theorem main_1_2 : Claimed_1_2 := comes_1 fun _ _ _ _ _ _ h hF => ⟨h.2.1, hF⟩
end Jvm.Pilot.@@N@@
namespace Jvm.Pilot.@@N@@
open Jvm Jvm.ClassFile Sem Op Lib Jvm.Free Jvm.Stand Jvm.Pilot.@@N@@.Jvm.D
/-! MADE BY PROGRAM (witnessworld.py) out of the Statement's table words and the real class files: 9 classes; the members and pool entries that the words name. The judged class is class 1, her method 1. -/
namespace start1
open Jvm.ClassFile
def u (s : String) : CpInfo := .utf8 (stringToUtf16 s)
/-- a pool by its gaps: so many unusable entries, then the entry; so many at the end -/
def gap : Nat → List CpInfo → List CpInfo
  | 0, r => r
  | n + 1, r => .unusable :: gap n r
def poolList (es : List (Nat × CpInfo)) (last : Nat) : List CpInfo := es.foldr (fun e r => gap e.1 (e.2 :: r)) (gap last [])
def pool (es : List (Nat × CpInfo)) (last : Nat) : Array CpInfo := ⟨poolList es last⟩
def fileOf (pool : Array CpInfo) (this : Nat) (attrs : Array Attribute := #[]) (ms : Array MethodInfo := #[]) (fl : Nat := 33) (sup : Nat := 0) (ifs : Array Nat := #[]) (fds : Array FieldInfo := #[]) : ClassFile where
  minorVersion := 0
  majorVersion := 65
  constantPool := pool
  accessFlags := fl
  thisClass := this
  superClass := sup
  interfaces := ifs
  fields := fds
  methods := ms
  attributes := attrs
def plain (name : String) (sup : Option ClassId) : Class where
  name := name
  kind := .ordinary
  loader := none
  accessFlags := 33
  super := sup
  interfaces := #[]
  cf := none
  fields := #[]
  methods := #[]
  instanceTypes := #[]
  staticTypes := #[]
  resolved := #[]
  callSites := []
  init := .initialized
  statics := none
  mirror := none

def pool0 : Array CpInfo := pool [(5, u "<init>"), (0, u "()V"), (1, .class_ 10), (1, u "java/lang/Object")] 113

def k0m0 : Method := { name := "<init>", desc := "()V", sig := { parameters := [], returnType := none }, accessFlags := 1, code := none }
/-- java/lang/Object -/
def k0 : Class := { plain "java/lang/Object" none with
  accessFlags := 33
  interfaces := #[]
  cf := some (fileOf pool0 8 #[] #[{ accessFlags := 1, nameIndex := 5, descriptorIndex := 6, attributes := #[] }] 33 0 #[] #[])
  fields := #[]
  methods := #[k0m0]
  instanceTypes := #[]
  staticTypes := #[]
  resolved := Array.replicate 124 none
  statics := none }

def pool1 : Array CpInfo := pool [(2, .class_ 4), (1, u "java/lang/Object"), (0, u "<init>"), (0, u "()V"), (2, .long 9223372036854775807), (1, .class_ 12), (0, u "com/example/arnero/arnero/BloomFilter"), (0, .long 137438952897), (1, .methodref 11 16), (0, .nameAndType 17 18), (0, u "wordsFor"), (0, u "(J)I"), (0, .long 64), (1, .class_ 22), (0, u "com/example/arnero/arnero/BloomFilterWordsForPinLaw"), (2, u "law"), (0, u "(J)Z")] 3

def k1m0 : Method := { name := "<init>", desc := "()V", sig := { parameters := [], returnType := none }, accessFlags := 1, code := none }
def k1c1 : Code := { maxStack := 4, maxLocals := 9, code := code, exceptionTable := #[], attributes := #[] }
def k1m1 : Method := { name := "law", desc := "(J)Z", sig := { parameters := [.long], returnType := some .boolean }, accessFlags := 9, code := some k1c1 }
/-- com/example/arnero/arnero/BloomFilterWordsForPinLaw -/
def k1 : Class := { plain "com/example/arnero/arnero/BloomFilterWordsForPinLaw" (some 0) with
  accessFlags := 49
  interfaces := #[]
  cf := some (fileOf pool1 21 #[] #[{ accessFlags := 1, nameIndex := 5, descriptorIndex := 6, attributes := #[] }, { accessFlags := 9, nameIndex := 25, descriptorIndex := 26, attributes := #[] }] 49 2 #[] #[])
  fields := #[]
  methods := #[k1m0, k1m1]
  instanceTypes := #[]
  staticTypes := #[]
  resolved := Array.replicate 30 none
  statics := none }

def pool2 : Array CpInfo := pool [(6, .class_ 8), (1, u "com/example/arnero/arnero/BloomFilter"), (8, u "wordsFor"), (0, u "(J)I"), (10, .class_ 30), (0, u "java/lang/Object"), (2, u "bits"), (0, u "J"), (2, u "hashes"), (0, u "I"), (2, u "keys"), (2, u "words"), (0, u "[J"), (2, u "characters"), (0, u "Ljava/util/BitSet;"), (2, u "longestKey"), (191, .long 64), (1, u "MAX_BITS"), (1, u "MAX_HASHES"), (1, u "FIRST_PLACES")] 32

def k2c0 : Code := { maxStack := 4, maxLocals := 2, code := prog_1_method_24_code, exceptionTable := #[], attributes := #[] }
def k2m0 : Method := { name := "wordsFor", desc := "(J)I", sig := { parameters := [.long], returnType := some .int }, accessFlags := 8, code := some k2c0 }
/-- com/example/arnero/arnero/BloomFilter -/
def k2 : Class := { plain "com/example/arnero/arnero/BloomFilter" (some 0) with
  accessFlags := 33
  interfaces := #[]
  cf := some (fileOf pool2 6 #[] #[{ accessFlags := 8, nameIndex := 17, descriptorIndex := 18, attributes := #[] }] 33 29 #[] #[{ accessFlags := 25, nameIndex := 246, descriptorIndex := 34, attributes := #[] }, { accessFlags := 25, nameIndex := 248, descriptorIndex := 38, attributes := #[] }, { accessFlags := 26, nameIndex := 250, descriptorIndex := 38, attributes := #[] }, { accessFlags := 18, nameIndex := 33, descriptorIndex := 34, attributes := #[] }, { accessFlags := 18, nameIndex := 37, descriptorIndex := 38, attributes := #[] }, { accessFlags := 18, nameIndex := 44, descriptorIndex := 45, attributes := #[] }, { accessFlags := 2, nameIndex := 41, descriptorIndex := 34, attributes := #[] }, { accessFlags := 2, nameIndex := 48, descriptorIndex := 49, attributes := #[] }, { accessFlags := 2, nameIndex := 52, descriptorIndex := 38, attributes := #[] }])
  fields := #[{ name := "MAX_BITS", type := .long, accessFlags := 25, slot := 0, constantValue := 0 }, { name := "MAX_HASHES", type := .int, accessFlags := 25, slot := 1, constantValue := 0 }, { name := "FIRST_PLACES", type := .int, accessFlags := 26, slot := 2, constantValue := 0 }, { name := "bits", type := .long, accessFlags := 18, slot := 0, constantValue := 0 }, { name := "hashes", type := .int, accessFlags := 18, slot := 1, constantValue := 0 }, { name := "words", type := (.array .long), accessFlags := 18, slot := 2, constantValue := 0 }, { name := "keys", type := .long, accessFlags := 2, slot := 3, constantValue := 0 }, { name := "characters", type := (.object "java/util/BitSet"), accessFlags := 2, slot := 4, constantValue := 0 }, { name := "longestKey", type := .int, accessFlags := 2, slot := 5, constantValue := 0 }]
  methods := #[k2m0]
  instanceTypes := #[.long, .int, (.array .long), .long, (.object "java/util/BitSet"), .int]
  staticTypes := #[.long, .int, .int]
  resolved := Array.replicate 283 none
  statics := none }

def pool3 : Array CpInfo := pool [(1, u "java/lang/Cloneable"), (0, .class_ 1), (0, u "java/lang/Object"), (0, .class_ 3)] 3

/-- java/lang/Cloneable -/
def k3 : Class := { plain "java/lang/Cloneable" (some 0) with
  accessFlags := 1537
  interfaces := #[]
  cf := some (fileOf pool3 2 #[] #[] 1537 4 #[] #[])
  fields := #[]
  methods := #[]
  instanceTypes := #[]
  staticTypes := #[]
  resolved := Array.replicate 8 none
  statics := none }

def pool4 : Array CpInfo := pool [(1, u "java/io/Serializable"), (0, .class_ 1), (0, u "java/lang/Object"), (0, .class_ 3)] 3

/-- java/io/Serializable -/
def k4 : Class := { plain "java/io/Serializable" (some 0) with
  accessFlags := 1537
  interfaces := #[]
  cf := some (fileOf pool4 2 #[] #[] 1537 4 #[] #[])
  fields := #[]
  methods := #[]
  instanceTypes := #[]
  staticTypes := #[]
  resolved := Array.replicate 8 none
  statics := none }

/-- the primitive byte -/
def k5 : Class := { plain "byte" none with kind := .primitive 'B', accessFlags := 0x411 }
/-- [B -/
def k6 : Class := { plain "[B" (some 0) with kind := .array 5 .byte, interfaces := #[3, 4], accessFlags := 1041 }

/-- the primitive int -/
def k7 : Class := { plain "int" none with kind := .primitive 'I', accessFlags := 0x411 }
/-- [I -/
def k8 : Class := { plain "[I" (some 0) with kind := .array 7 .int, interfaces := #[3, 4], accessFlags := 1041 }

def heap : Heap := #[]
def classes : Array Class := #[k0, k1, k2, k3, k4, k5, k6, k7, k8]
def interned : List (Array UInt16 × Addr) := []
def slotsUsed : Nat := 0
def theMethod : MethodId := ⟨1, 1⟩
def args0 : Array Value := #[.long 5]
def aboutOver (below : List Frame) : State where
  vm := { classes := classes, interned := interned.toArray }
  heap := heap
  slotsUsed := slotsUsed
  threads := #[{ frames := .invoking theMethod args0 :: below }]
def below0 : List Frame := [.native { method := ⟨0, 0⟩, args := #[] }]
def about1 : State := aboutOver below0
def p0 : Program := .bare "" "" ""
def e0 : Env := launch0.env 0 0 0
theorem w_frames : about1.frames = Frame.invoking theMethod args0 :: below0 := rfl
set_option maxRecDepth 65536 in
theorem w_args : argsFit about1.vm theMethod args0 = true := by decide +kernel
set_option maxRecDepth 65536 in
theorem w_heap : heapFits about1 = true := by decide +kernel
set_option maxRecDepth 65536 in
theorem w_runnable : about1.curStatus? = some .runnable := by decide +kernel
set_option maxRecDepth 65536 in
theorem w_alone : about1.alone = true := by decide +kernel
set_option maxRecDepth 65536 in
theorem w_named : about1.methodNamed? x = some theMethod := by decide +kernel
set_option maxRecDepth 65536 in
theorem w_hears : about1.hears theMethod below0 = true := by decide +kernel
set_option maxRecDepth 65536 in
theorem w_ripe : about1.ripe theMethod args0 below0 = true := by decide +kernel
theorem w_running : about1.status = .running := rfl
set_option maxRecDepth 65536 in
theorem w_room : about1.hasRoom e0.platform room_1 = true :=
  launch0.hasRoom_least _ room_1 (by decide +kernel) (by decide +kernel) (by decide +kernel) (by decide +kernel) (by decide +kernel) (by decide +kernel)
theorem allAtoms_all (ts : List Jvm.Cond) (a : Array Jvm.Value) (st : Jvm.State) : (allAtoms ts).before a st = ts.all (fun c => c.before a st) := by
  induction ts with
  | nil => rfl
  | cons c t ih =>
    show (Jvm.Cond.and c (allAtoms t)).before a st = _
    rw [Jvm.Cond.before_and, ih, List.all_cons]
def words1 : List Jvm.Cond := Jvm.Cond.code x code maxLocals ret :: tables_1
/-- a 'code' word, met by the world's own term for the bytes: nothing is compared byte by byte -/
theorem code_word {y : MethodName} {bytes : ByteArray} {mx : Nat} {rt : Option FieldType} {a : Array Value} {s : State} {m : MethodId} {meth : Method} {c : Code} (h1 : s.methodNamed? y = some m) (h2 : s.vm.method? m = some meth) (h3 : meth.code = some c) (h4 : c.code = bytes)
    (h5 : (c.maxLocals == mx && c.exceptionTable.isEmpty && decide (c.maxStack ≤ mostOperands) && decide (meth.sig.returnType = rt) && !meth.locks && decide (parseMethodDescriptor y.desc = some meth.sig)) = true) : (Jvm.Cond.code y bytes mx rt).before a s = true := by
  simp only [Bool.and_eq_true, beq_iff_eq, Bool.not_eq_true', decide_eq_true_eq] at h5
  obtain ⟨⟨⟨⟨⟨g1, g2⟩, g3⟩, g4⟩, g5⟩, g6⟩ := h5
  simp [Cond.before, Cond.holds, Cond.value, h1, h2, h3, h4, g1, g2, g3, g4, g5, g6]
def isCode : Jvm.Cond → Bool
  | .code _ _ _ _ => true
  | _ => false
theorem all_split {L : List Jvm.Cond} {P : Jvm.Cond → Bool} (h1 : L.all (fun c => isCode c || P c) = true) (h2 : ∀ c ∈ L.filter isCode, P c = true) : L.all P = true := by
  refine List.all_eq_true.mpr fun c hc => ?_
  have h := List.all_eq_true.mp h1 c hc
  rcases Bool.eq_false_or_eq_true (isCode c) with hi | hi
  · exact h2 c (List.mem_filter.mpr ⟨hc, hi⟩)
  · simpa [hi] using h
set_option maxRecDepth 65536 in
theorem w_c0 : (Jvm.Cond.code x code maxLocals ret).before args0 about1 = true := code_word (m := ⟨1, 1⟩) (meth := k1m1) (c := k1c1) (by decide +kernel) rfl rfl rfl (by decide +kernel)
set_option maxRecDepth 65536 in
theorem w_c1 : (Jvm.Cond.code ({ cls := "com/example/arnero/arnero/BloomFilter", name := "wordsFor", desc := "(J)I" } : Jvm.MethodName) prog_1_method_24_code (2 : Nat) (Option.some Jvm.ClassFile.FieldType.int)).before args0 about1 = true := code_word (m := ⟨2, 0⟩) (meth := k2m0) (c := k2c0) (by decide +kernel) rfl rfl rfl (by decide +kernel)
def codes1 : List Jvm.Cond := [Jvm.Cond.code x code maxLocals ret, Jvm.Cond.code ({ cls := "com/example/arnero/arnero/BloomFilter", name := "wordsFor", desc := "(J)I" } : Jvm.MethodName) prog_1_method_24_code (2 : Nat) (Option.some Jvm.ClassFile.FieldType.int)]
set_option maxRecDepth 65536 in
theorem codes_eq : words1.filter isCode = codes1 := rfl
theorem w_codes : ∀ c ∈ words1.filter isCode, c.before args0 about1 = true := by
  rw [codes_eq]
  intro c hc
  simp only [codes1, List.mem_cons, List.not_mem_nil, or_false] at hc
  rcases hc with rfl | rfl
  · exact w_c0
  · exact w_c1
set_option maxRecDepth 65536 in
theorem w_t1 : words1.all (fun c => isCode c || c.before args0 about1) = true := by decide +kernel
theorem w_tables : (allAtoms (Jvm.Cond.code x code maxLocals ret :: tables_1)).before args0 about1 = true := by
  rw [allAtoms_all]
  show words1.all (fun c => c.before args0 about1) = true
  refine all_split ?_ w_codes
  rw [w_t1]
set_option maxRecDepth 65536 in
theorem w_case : (Jvm.Cond.and given_1 narrow_1).before args0 about1 = true := by decide +kernel
theorem w_applies : (headSpec (Jvm.Cond.code x code maxLocals ret :: tables_1) room_1).applies x e0.platform about1 = true :=
  (Spec.applies_iff w_frames).mpr ⟨w_running, w_runnable, w_alone, w_named, w_hears, w_ripe, w_room, w_tables⟩
theorem atStart : AtStart classFile x code maxLocals ret World_1 tables_1 room_1 Calls_1 rest_1 Pre_1 launch0 p0 e0 about1 theMethod args0 below0 :=
  ⟨lists_1, trivial, launch0.admits_env _ _ _, launch0.least_env, fairChoices_fair.cas, fairChoices_fair.clock, w_frames, w_args, w_heap, w_applies, trivial, trivial, w_case⟩
end start1
theorem witness_1 : WitnessClaimed_1 := ⟨start1.p0, start1.e0, start1.about1, start1.theMethod, start1.args0, start1.below0, start1.atStart⟩
end Jvm.Pilot.@@N@@
