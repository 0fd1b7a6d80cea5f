import JvmDerived
import JvmDerived.Pilot.@@N@@Statement
import JvmDerived.Pilot.@@N@@Code
set_option linter.unusedVariables false
set_option linter.unusedSimpArgs false
namespace Jvm.OwnKit
open Sem ClassFile Op Lib Jvm.Stand Jvm.Free Jvm.LawKit Jvm.RoadKit
/-- from S the run comes to a state of which Φ holds -/
def Go (p : Program) (e : Env) (below : List Frame) (Φ : State → Prop) (S : State) : Prop := ∃ u, Steps p.tables e below S u ∧ Φ u
theorem Go.step {p : Program} {e : Env} {below : List Frame} {Φ : State → Prop} {S S' : State} (h : ∀ t, Steps p.tables e below S' t → Steps p.tables e below S t) (k : Go p e below Φ S') : Go p e below Φ S := by
  obtain ⟨u, q, r⟩ := k
  exact ⟨u, h u q, r⟩
theorem Go.trans {p : Program} {e : Env} {below : List Frame} {Φ : State → Prop} {S S' : State} (h : Steps p.tables e below S S') (k : Go p e below Φ S') : Go p e below Φ S := by
  obtain ⟨u, q, r⟩ := k
  exact ⟨u, Steps.trans h q, r⟩
theorem Go.here {p : Program} {e : Env} {below : List Frame} {Φ : State → Prop} {S : State} (k : Φ S) : Go p e below Φ S := ⟨S, Steps.refl _, k⟩
/-- the end of a body -/
def FinQ (below : List Frame) (s : State) (Q : Option Value → Heap → List Loc → Prop) (k n : Nat) (u : State) : Prop :=
  ∃ o, u.status = .running ∧ Ended u below o ∧ ∃ v L, o = .returned v ∧ Q v u.heap L ∧ FrameEnd s o u L k n
theorem Go.done {p : Program} {e : Env} {below : List Frame} {s : State} {Q : Option Value → Heap → List Loc → Prop} {k n : Nat} {S : State} (h : Go p e below (FinQ below s Q k n) S) :
    ∃ s₂ o, Steps p.tables e below S s₂ ∧ s₂.status = .running ∧ Ended s₂ below o ∧ ∃ v L, o = .returned v ∧ Q v s₂.heap L ∧ FrameEnd s o s₂ L k n := by
  obtain ⟨u, q, o, r1, r2, r3⟩ := h
  exact ⟨u, o, q, r1, r2, r3⟩
section New
variable {p : Program} {l : Launch} {e : Env} {R : Room} {s : State} {m : MethodId} {args : Array Value} {below : List Frame} {meth : Method} {c : Code} {T : State} {locs : List Loc} {cells slots : Nat}
/-- the run stands at the frame F, in a heap h -/
def AtF (p : Program) (l : Launch) (e : Env) (R : Room) (s : State) (m : MethodId) (args : Array Value) (below : List Frame) (meth : Method) (c : Code) (n0 cells slots : Nat) (h : Heap) (F : JFrame) (u : State) : Prop :=
  ∃ T' locs', u = T'.setTop F ∧ Stand p l e R s m args below meth c T' locs' cells slots ∧ Fr n0 locs' ∧ T'.heap = h
theorem retG {pc : Nat} {Ls : Array Slot} {w : Value} {t : FieldType} {i : Instr} {rest : List Value} {Q : Option Value → Heap → List Loc → Prop} {k n : Nat}
    (X : Stand p l e R s m args below meth c T locs cells slots) (hx : p.tables.exec = Jvm.exec) (hlocks : meth.locks = false) (hret : meth.sig.returnType = some t) (hn : narrow t w = w)
    (hi : (i = .ireturn ∧ (t = .int ∨ t = .boolean ∨ t = .byte ∨ t = .char ∨ t = .short) ∧ ∃ z, w = .int z) ∨ (i = .lreturn ∧ t = .long ∧ ∃ z, w = .long z) ∨ (i = .dreturn ∧ t = .double ∧ ∃ z, w = .double z) ∨ (i = .freturn ∧ t = .float ∧ ∃ z, w = .float z) ∨ (i = .areturn ∧ t.isReference = true ∧ w.isRef = true))
    (hd : decode c.code pc = .ok (i, 1)) (hQ : Q (some w) T.heap locs) (hc : cells ≤ k) (hs : slots ≤ n) : Go p e below (FinQ below s Q k n) (T.setTop (mkF m pc Ls (w :: rest))) := by
  obtain ⟨fs, hr, hrun, hended, hW, hsame⟩ := X.leave (v := some w) (fun h => by rw [hret] at h; cases h) hlocks
  exact ⟨_, retOut X hx hret hn hi hd hr, _, hrun, hended, _, _, rfl, hQ, ⟨_, rfl⟩, hW, hsame.mono hc hs⟩
theorem retGI {pc : Nat} {Ls : Array Slot} {z : Int32} {rest : List Value} {Q : Option Value → Heap → List Loc → Prop} {k n : Nat}
    (X : Stand p l e R s m args below meth c T locs cells slots) (hx : p.tables.exec = Jvm.exec) (hlocks : meth.locks = false) (hret : meth.sig.returnType = some .int)
    (hd : decode c.code pc = .ok (.ireturn, 1)) (hQ : Q (some (.int z)) T.heap locs) (hc : cells ≤ k) (hs : slots ≤ n) : Go p e below (FinQ below s Q k n) (T.setTop (mkF m pc Ls (.int z :: rest))) :=
  retG X hx hlocks hret rfl (Or.inl ⟨rfl, Or.inl rfl, _, rfl⟩) hd hQ hc hs
theorem retGJ {pc : Nat} {Ls : Array Slot} {z : Int64} {rest : List Value} {Q : Option Value → Heap → List Loc → Prop} {k n : Nat}
    (X : Stand p l e R s m args below meth c T locs cells slots) (hx : p.tables.exec = Jvm.exec) (hlocks : meth.locks = false) (hret : meth.sig.returnType = some .long)
    (hd : decode c.code pc = .ok (.lreturn, 1)) (hQ : Q (some (.long z)) T.heap locs) (hc : cells ≤ k) (hs : slots ≤ n) : Go p e below (FinQ below s Q k n) (T.setTop (mkF m pc Ls (.long z :: rest))) :=
  retG X hx hlocks hret rfl (Or.inr (Or.inl ⟨rfl, rfl, _, rfl⟩)) hd hQ hc hs
theorem retGR {pc : Nat} {Ls : Array Slot} {a : Addr} {t : FieldType} {rest : List Value} {Q : Option Value → Heap → List Loc → Prop} {k n : Nat}
    (X : Stand p l e R s m args below meth c T locs cells slots) (hx : p.tables.exec = Jvm.exec) (hlocks : meth.locks = false) (hret : meth.sig.returnType = some t) (ht : t.isReference = true) (hn : narrow t (.ref a) = .ref a)
    (hd : decode c.code pc = .ok (.areturn, 1)) (hQ : Q (some (.ref a)) T.heap locs) (hc : cells ≤ k) (hs : slots ≤ n) : Go p e below (FinQ below s Q k n) (T.setTop (mkF m pc Ls (.ref a :: rest))) :=
  retG X hx hlocks hret hn (Or.inr (Or.inr (Or.inr (Or.inr ⟨rfl, ht, rfl⟩)))) hd hQ hc hs
theorem retGN {pc : Nat} {Ls : Array Slot} {z z' : Int32} {t : FieldType} {rest : List Value} {Q : Option Value → Heap → List Loc → Prop} {k n : Nat}
    (X : Stand p l e R s m args below meth c T locs cells slots) (hx : p.tables.exec = Jvm.exec) (hlocks : meth.locks = false) (hret : meth.sig.returnType = some t) (ht : t = .boolean ∨ t = .byte ∨ t = .char ∨ t = .short) (hz : nar t z = z')
    (hd : decode c.code pc = .ok (.ireturn, 1)) (hQ : Q (some (.int z')) T.heap locs) (hc : cells ≤ k) (hs : slots ≤ n) : Go p e below (FinQ below s Q k n) (T.setTop (mkF m pc Ls (.int z :: rest))) := by
  subst hz
  obtain ⟨fs, hr, hrun, hended, hW, hsame⟩ := X.leave (v := some (.int (nar t z))) (fun h => by rw [hret] at h; cases h) hlocks
  exact ⟨_, retN X hx hret ht hd hr, _, hrun, hended, _, _, rfl, hQ, ⟨_, rfl⟩, hW, hsame.mono hc hs⟩
theorem retGV {pc : Nat} {Ls : Array Slot} {Q : Option Value → Heap → List Loc → Prop} {k n : Nat}
    (X : Stand p l e R s m args below meth c T locs cells slots) (hx : p.tables.exec = Jvm.exec) (hlocks : meth.locks = false) (hret : meth.sig.returnType = none)
    (hd : decode c.code pc = .ok (.return_, 1)) (hQ : Q none T.heap locs) (hc : cells ≤ k) (hs : slots ≤ n) : Go p e below (FinQ below s Q k n) (T.setTop (mkF m pc Ls [])) := by
  obtain ⟨fs, hr, hrun, hended, hW, hsame⟩ := X.leave (v := none) (fun _ => rfl) hlocks
  exact ⟨_, X.returnOut hx hret hd hr, _, hrun, hended, _, _, rfl, hQ, ⟨_, rfl⟩, hW, hsame.mono hc hs⟩
end New
/-- a body that writes nothing and returns r -/
def QP (r : Value) (h0 : Heap) (n0 : Nat) (v : Option Value) (h : Heap) (L : List Loc) : Prop := v = some r ∧ Fr n0 L ∧ h = h0
def QV (h0 : Heap) (n0 : Nat) (v : Option Value) (h : Heap) (L : List Loc) : Prop := v = none ∧ Fr n0 L ∧ h = h0
/-- a law: it returns r and writes nothing old -/
def QL (r : Value) (n0 : Nat) (v : Option Value) (h : Heap) (L : List Loc) : Prop := v = some r ∧ Fr n0 L
theorem remI (x y : Int32) : x - (x / y) * y = x % y := by
  rw [← Int32.toInt_inj, Int32.toInt_sub, Int32.toInt_mul, Int32.toInt_div, Int32.toInt_mod]
  have h := Int.tmod_add_mul_tdiv x.toInt y.toInt
  have r : (x.toInt.tmod y.toInt).bmod (2 ^ 32) = x.toInt.tmod y.toInt := by
    have := Int32.toInt_bmod (x % y)
    rwa [Int32.toInt_mod] at this
  rw [← r]
  have e : ((x.toInt.tdiv y.toInt).bmod (2 ^ 32) * y.toInt).bmod (2 ^ 32) = (x.toInt.tdiv y.toInt * y.toInt).bmod (2 ^ 32) := by simp
  rw [e, Int.sub_bmod_bmod]
  congr 1
  have := Int.mul_comm (x.toInt.tdiv y.toInt) y.toInt
  omega
theorem addI {x y : Int32} (h1 : -2147483648 ≤ x.toInt + y.toInt) (h2 : x.toInt + y.toInt < 2147483648) : (x + y).toInt = x.toInt + y.toInt := by have := c_iadd x y; have := rng32 (x + y); omega
theorem subI {x y : Int32} (h1 : -2147483648 ≤ x.toInt - y.toInt) (h2 : x.toInt - y.toInt < 2147483648) : (x - y).toInt = x.toInt - y.toInt := by have := c_isub x y; have := rng32 (x - y); omega
theorem mulI {x y : Int32} (h1 : -2147483648 ≤ x.toInt * y.toInt) (h2 : x.toInt * y.toInt < 2147483648) : (x * y).toInt = x.toInt * y.toInt := by have := c_imul x y; have := rng32 (x * y); omega
theorem addL {x y : Int64} (h1 : -9223372036854775808 ≤ x.toInt + y.toInt) (h2 : x.toInt + y.toInt < 9223372036854775808) : (x + y).toInt = x.toInt + y.toInt := by have := c_ladd x y; have := rng64 (x + y); omega
theorem subL {x y : Int64} (h1 : -9223372036854775808 ≤ x.toInt - y.toInt) (h2 : x.toInt - y.toInt < 9223372036854775808) : (x - y).toInt = x.toInt - y.toInt := by have := c_lsub x y; have := rng64 (x - y); omega
theorem mulL {x y : Int64} (h1 : -9223372036854775808 ≤ x.toInt * y.toInt) (h2 : x.toInt * y.toInt < 9223372036854775808) : (x * y).toInt = x.toInt * y.toInt := by have := c_lmul x y; have := rng64 (x * y); omega
theorem modI {x y : Int32} (d : Int) (hy : y.toInt = d) (hx : 0 ≤ x.toInt) : (x % y).toInt = x.toInt % d := by rw [Int32.toInt_mod, hy]; exact (tr _ _).1 hx
theorem modL {x y : Int64} (d : Int) (hy : y.toInt = d) (hx : 0 ≤ x.toInt) : (x % y).toInt = x.toInt % d := by rw [Int64.toInt_mod, hy]; exact (tr _ _).1 hx
end Jvm.OwnKit
namespace Jvm.Pilot.@@N@@
open Jvm Jvm.ClassFile Sem Op Lib Jvm.Free Jvm.Stand Jvm.LawKit Jvm.RoadKit Jvm.OwnKit Bundle Jvm.Pilot.@@N@@.Jvm.D
theorem d1_0 : decode prog_6_method_3_code 0 = .ok (.lload_n 0, 1) := by decide +kernel
theorem d1_1 : decode prog_6_method_3_code 1 = .ok (.ldc2_w 15, 3) := by decide +kernel
theorem d1_4 : decode prog_6_method_3_code 4 = .ok (.ladd, 1) := by decide +kernel
theorem d1_5 : decode prog_6_method_3_code 5 = .ok (.lstore_n 2, 1) := by decide +kernel
theorem d1_6 : decode prog_6_method_3_code 6 = .ok (.lload_n 2, 1) := by decide +kernel
theorem d1_7 : decode prog_6_method_3_code 7 = .ok (.lload_n 2, 1) := by decide +kernel
theorem d1_8 : decode prog_6_method_3_code 8 = .ok (.bipush 30, 2) := by decide +kernel
theorem d1_10 : decode prog_6_method_3_code 10 = .ok (.lushr, 1) := by decide +kernel
theorem d1_11 : decode prog_6_method_3_code 11 = .ok (.lxor, 1) := by decide +kernel
theorem d1_12 : decode prog_6_method_3_code 12 = .ok (.ldc2_w 29, 3) := by decide +kernel
theorem d1_15 : decode prog_6_method_3_code 15 = .ok (.lmul, 1) := by decide +kernel
theorem d1_16 : decode prog_6_method_3_code 16 = .ok (.lstore_n 2, 1) := by decide +kernel
theorem d1_17 : decode prog_6_method_3_code 17 = .ok (.lload_n 2, 1) := by decide +kernel
theorem d1_18 : decode prog_6_method_3_code 18 = .ok (.lload_n 2, 1) := by decide +kernel
theorem d1_19 : decode prog_6_method_3_code 19 = .ok (.bipush 27, 2) := by decide +kernel
theorem d1_21 : decode prog_6_method_3_code 21 = .ok (.lushr, 1) := by decide +kernel
theorem d1_22 : decode prog_6_method_3_code 22 = .ok (.lxor, 1) := by decide +kernel
theorem d1_23 : decode prog_6_method_3_code 23 = .ok (.ldc2_w 31, 3) := by decide +kernel
theorem d1_26 : decode prog_6_method_3_code 26 = .ok (.lmul, 1) := by decide +kernel
theorem d1_27 : decode prog_6_method_3_code 27 = .ok (.lstore_n 2, 1) := by decide +kernel
theorem d1_28 : decode prog_6_method_3_code 28 = .ok (.lload_n 2, 1) := by decide +kernel
theorem d1_29 : decode prog_6_method_3_code 29 = .ok (.lload_n 2, 1) := by decide +kernel
theorem d1_30 : decode prog_6_method_3_code 30 = .ok (.bipush 31, 2) := by decide +kernel
theorem d1_32 : decode prog_6_method_3_code 32 = .ok (.lushr, 1) := by decide +kernel
theorem d1_33 : decode prog_6_method_3_code 33 = .ok (.lxor, 1) := by decide +kernel
theorem d1_34 : decode prog_6_method_3_code 34 = .ok (.lreturn, 1) := by decide +kernel
theorem ef_1 (m : MethodId) (q1 : Int64) : entryFrame m #[(.long q1)] 4 = mkF m 0 #[.val (.long q1), .second, .unset, .unset] [] := by first | (simp [entryFrame, mkF, argsToLocals, Value.category]; done) | rfl
theorem pn_0 : plainName "com/example/arnero/arnero/HashScheme" = true := by first | (simp [plainName, overriddenIn]; done) | decide +kernel
def f1 (q1 : Int64) : Int64 := ((((((q1 + (-7046029254386353131 : Int64)) ^^^ (((q1 + (-7046029254386353131 : Int64)).toUInt64 >>> ((30 : Int32) &&& 0x3f).toInt64.toUInt64).toInt64)) * (-4658895280553007687 : Int64)) ^^^ (((((q1 + (-7046029254386353131 : Int64)) ^^^ (((q1 + (-7046029254386353131 : Int64)).toUInt64 >>> ((30 : Int32) &&& 0x3f).toInt64.toUInt64).toInt64)) * (-4658895280553007687 : Int64)).toUInt64 >>> ((27 : Int32) &&& 0x3f).toInt64.toUInt64).toInt64)) * (-7723592293110705685 : Int64)) ^^^ (((((((q1 + (-7046029254386353131 : Int64)) ^^^ (((q1 + (-7046029254386353131 : Int64)).toUInt64 >>> ((30 : Int32) &&& 0x3f).toInt64.toUInt64).toInt64)) * (-4658895280553007687 : Int64)) ^^^ (((((q1 + (-7046029254386353131 : Int64)) ^^^ (((q1 + (-7046029254386353131 : Int64)).toUInt64 >>> ((30 : Int32) &&& 0x3f).toInt64.toUInt64).toInt64)) * (-4658895280553007687 : Int64)).toUInt64 >>> ((27 : Int32) &&& 0x3f).toInt64.toUInt64).toInt64)) * (-7723592293110705685 : Int64)).toUInt64 >>> ((31 : Int32) &&& 0x3f).toInt64.toUInt64).toInt64))
set_option maxRecDepth 65536 in
set_option maxHeartbeats 40000000 in
theorem rm1 (l : Launch) (Z : State) (a0 : Array Value) (hw : ∀ d ∈ tables_1, d.before a0 Z = true) (ws : List Jvm.Cond) (q1 : Int64) (h0 : Heap) (n0 : Nat) (Z0 : n0 ≤ h0.size) :
    MetFree l (⟨"com/example/arnero/arnero/HashScheme", "stride", "(J)J"⟩ : MethodName) (head1 (Jvm.Cond.code (⟨"com/example/arnero/arnero/HashScheme", "stride", "(J)J"⟩ : MethodName) prog_6_method_3_code 4 (some .long) :: ws) ({ frames := 0, cells := 0, slots := 0, locals := 0 } : Room)) (fun a U => a = #[(.long q1)] ∧ Z.Warmed39 U.vm ∧ U.heap = h0) (fun _ _ _ _ _ => True) (fun _ U o U' => ∃ v L, o = .returned v ∧ QP (.long (f1 q1)) h0 n0 v U'.heap L ∧ FrameEnd U o U' L ({ frames := 0, cells := 0, slots := 0, locals := 0 } : Room).cells ({ frames := 0, cells := 0, slots := 0, locals := 0 } : Room).slots) := by
  refine MetFree.of_bodySF (plainFor_of_name pn_0) hisR ?_
  intro p e s m args below meth c s₁ Bd hml0 hP hK
  obtain ⟨rfl, hZ, hh⟩ := hP
  have hx := Bd.exec
  have hby := Bd.bytes
  have hml : c.maxLocals = 4 := hml0
  have hown : s.vm.findClass "com/example/arnero/arnero/HashScheme" = some m.cls := findClass_of_methodNamed Bd.named
  have hnm := (name_of_methodNamed Bd.named Bd.method).1
  have X0 : Stand p l e ({ frames := 0, cells := 0, slots := 0, locals := 0 } : Room) s m #[(.long q1)] below meth c s₁ [] 0 0 := Stand.of_body Bd
  have e0 : s₁.heap = h0 := by rw [← hh, Bd.state]; rfl
  have N0 := Fr.nil n0
  refine Go.done (Go.step (fun t k => castTop (ef_1 m q1) k) ?_)
  show Go p e below _ (s₁.setTop (mkF m 0 #[.val (.long q1), .second, .unset, .unset] []))
  refine Go.step (fun t k => XS.lloadN X0.here hx rfl (hb hby d1_0) rfl k) ?_
  show Go p e below _ (s₁.setTop (mkF m 1 #[.val (.long q1), .second, .unset, .unset] [(.long q1)]))
  refine Go.step (X0.ldc2Long hx hown (mvT hZ (hw _ (List.mem_of_getElem? (i := 4) rfl))) (g := (mkF m 1 #[.val (.long q1), .second, .unset, .unset] [(.long q1)])) rfl (hb hby d1_1)) ?_
  show Go p e below _ (s₁.setTop (mkF m 4 #[.val (.long q1), .second, .unset, .unset] [(.long (-7046029254386353131 : Int64)), (.long q1)]))
  refine Go.step (fun t k => XS.ladd X0.here hx rfl (hb hby d1_4) rfl k) ?_
  show Go p e below _ (s₁.setTop (mkF m 5 #[.val (.long q1), .second, .unset, .unset] [(.long (q1 + (-7046029254386353131 : Int64)))]))
  obtain ⟨v2, hv2⟩ : ∃ z : Int64, z = (q1 + (-7046029254386353131 : Int64)) := ⟨_, rfl⟩
  rw [← hv2]
  show Go p e below _ (s₁.setTop (mkF m 5 #[.val (.long q1), .second, .unset, .unset] [(.long v2)]))
  refine Go.step (fun t k => XS.lstoreN X0.here hx rfl (hb hby d1_5) rfl (l' := #[.val (.long q1), .second, .val (.long v2), .second]) rfl k) ?_
  show Go p e below _ (s₁.setTop (mkF m 6 #[.val (.long q1), .second, .val (.long v2), .second] []))
  refine Go.step (fun t k => XS.lloadN X0.here hx rfl (hb hby d1_6) rfl k) ?_
  show Go p e below _ (s₁.setTop (mkF m 7 #[.val (.long q1), .second, .val (.long v2), .second] [(.long v2)]))
  refine Go.step (fun t k => XS.lloadN X0.here hx rfl (hb hby d1_7) rfl k) ?_
  show Go p e below _ (s₁.setTop (mkF m 8 #[.val (.long q1), .second, .val (.long v2), .second] [(.long v2), (.long v2)]))
  refine Go.step (fun t k => XS.bipush X0.here hx rfl (hb hby d1_8)  k) ?_
  show Go p e below _ (s₁.setTop (mkF m 10 #[.val (.long q1), .second, .val (.long v2), .second] [(.int (30 : Int32)), (.long v2), (.long v2)]))
  refine Go.step (fun t k => XS.lushr X0.here hx rfl (hb hby d1_10) rfl k) ?_
  show Go p e below _ (s₁.setTop (mkF m 11 #[.val (.long q1), .second, .val (.long v2), .second] [(.long ((v2.toUInt64 >>> ((30 : Int32) &&& 0x3f).toInt64.toUInt64).toInt64)), (.long v2)]))
  refine Go.step (fun t k => XS.lxor X0.here hx rfl (hb hby d1_11) rfl k) ?_
  show Go p e below _ (s₁.setTop (mkF m 12 #[.val (.long q1), .second, .val (.long v2), .second] [(.long (v2 ^^^ ((v2.toUInt64 >>> ((30 : Int32) &&& 0x3f).toInt64.toUInt64).toInt64)))]))
  refine Go.step (X0.ldc2Long hx hown (mvT hZ (hw _ (List.mem_of_getElem? (i := 5) rfl))) (g := (mkF m 12 #[.val (.long q1), .second, .val (.long v2), .second] [(.long (v2 ^^^ ((v2.toUInt64 >>> ((30 : Int32) &&& 0x3f).toInt64.toUInt64).toInt64)))])) rfl (hb hby d1_12)) ?_
  show Go p e below _ (s₁.setTop (mkF m 15 #[.val (.long q1), .second, .val (.long v2), .second] [(.long (-4658895280553007687 : Int64)), (.long (v2 ^^^ ((v2.toUInt64 >>> ((30 : Int32) &&& 0x3f).toInt64.toUInt64).toInt64)))]))
  refine Go.step (fun t k => XS.lmul X0.here hx rfl (hb hby d1_15) rfl k) ?_
  show Go p e below _ (s₁.setTop (mkF m 16 #[.val (.long q1), .second, .val (.long v2), .second] [(.long ((v2 ^^^ ((v2.toUInt64 >>> ((30 : Int32) &&& 0x3f).toInt64.toUInt64).toInt64)) * (-4658895280553007687 : Int64)))]))
  obtain ⟨v3, hv3⟩ : ∃ z : Int64, z = ((v2 ^^^ ((v2.toUInt64 >>> ((30 : Int32) &&& 0x3f).toInt64.toUInt64).toInt64)) * (-4658895280553007687 : Int64)) := ⟨_, rfl⟩
  rw [← hv3]
  show Go p e below _ (s₁.setTop (mkF m 16 #[.val (.long q1), .second, .val (.long v2), .second] [(.long v3)]))
  refine Go.step (fun t k => XS.lstoreN X0.here hx rfl (hb hby d1_16) rfl (l' := #[.val (.long q1), .second, .val (.long v3), .second]) rfl k) ?_
  show Go p e below _ (s₁.setTop (mkF m 17 #[.val (.long q1), .second, .val (.long v3), .second] []))
  refine Go.step (fun t k => XS.lloadN X0.here hx rfl (hb hby d1_17) rfl k) ?_
  show Go p e below _ (s₁.setTop (mkF m 18 #[.val (.long q1), .second, .val (.long v3), .second] [(.long v3)]))
  refine Go.step (fun t k => XS.lloadN X0.here hx rfl (hb hby d1_18) rfl k) ?_
  show Go p e below _ (s₁.setTop (mkF m 19 #[.val (.long q1), .second, .val (.long v3), .second] [(.long v3), (.long v3)]))
  refine Go.step (fun t k => XS.bipush X0.here hx rfl (hb hby d1_19)  k) ?_
  show Go p e below _ (s₁.setTop (mkF m 21 #[.val (.long q1), .second, .val (.long v3), .second] [(.int (27 : Int32)), (.long v3), (.long v3)]))
  refine Go.step (fun t k => XS.lushr X0.here hx rfl (hb hby d1_21) rfl k) ?_
  show Go p e below _ (s₁.setTop (mkF m 22 #[.val (.long q1), .second, .val (.long v3), .second] [(.long ((v3.toUInt64 >>> ((27 : Int32) &&& 0x3f).toInt64.toUInt64).toInt64)), (.long v3)]))
  refine Go.step (fun t k => XS.lxor X0.here hx rfl (hb hby d1_22) rfl k) ?_
  show Go p e below _ (s₁.setTop (mkF m 23 #[.val (.long q1), .second, .val (.long v3), .second] [(.long (v3 ^^^ ((v3.toUInt64 >>> ((27 : Int32) &&& 0x3f).toInt64.toUInt64).toInt64)))]))
  refine Go.step (X0.ldc2Long hx hown (mvT hZ (hw _ (List.mem_of_getElem? (i := 6) rfl))) (g := (mkF m 23 #[.val (.long q1), .second, .val (.long v3), .second] [(.long (v3 ^^^ ((v3.toUInt64 >>> ((27 : Int32) &&& 0x3f).toInt64.toUInt64).toInt64)))])) rfl (hb hby d1_23)) ?_
  show Go p e below _ (s₁.setTop (mkF m 26 #[.val (.long q1), .second, .val (.long v3), .second] [(.long (-7723592293110705685 : Int64)), (.long (v3 ^^^ ((v3.toUInt64 >>> ((27 : Int32) &&& 0x3f).toInt64.toUInt64).toInt64)))]))
  refine Go.step (fun t k => XS.lmul X0.here hx rfl (hb hby d1_26) rfl k) ?_
  show Go p e below _ (s₁.setTop (mkF m 27 #[.val (.long q1), .second, .val (.long v3), .second] [(.long ((v3 ^^^ ((v3.toUInt64 >>> ((27 : Int32) &&& 0x3f).toInt64.toUInt64).toInt64)) * (-7723592293110705685 : Int64)))]))
  obtain ⟨v4, hv4⟩ : ∃ z : Int64, z = ((v3 ^^^ ((v3.toUInt64 >>> ((27 : Int32) &&& 0x3f).toInt64.toUInt64).toInt64)) * (-7723592293110705685 : Int64)) := ⟨_, rfl⟩
  rw [← hv4]
  show Go p e below _ (s₁.setTop (mkF m 27 #[.val (.long q1), .second, .val (.long v3), .second] [(.long v4)]))
  refine Go.step (fun t k => XS.lstoreN X0.here hx rfl (hb hby d1_27) rfl (l' := #[.val (.long q1), .second, .val (.long v4), .second]) rfl k) ?_
  show Go p e below _ (s₁.setTop (mkF m 28 #[.val (.long q1), .second, .val (.long v4), .second] []))
  refine Go.step (fun t k => XS.lloadN X0.here hx rfl (hb hby d1_28) rfl k) ?_
  show Go p e below _ (s₁.setTop (mkF m 29 #[.val (.long q1), .second, .val (.long v4), .second] [(.long v4)]))
  refine Go.step (fun t k => XS.lloadN X0.here hx rfl (hb hby d1_29) rfl k) ?_
  show Go p e below _ (s₁.setTop (mkF m 30 #[.val (.long q1), .second, .val (.long v4), .second] [(.long v4), (.long v4)]))
  refine Go.step (fun t k => XS.bipush X0.here hx rfl (hb hby d1_30)  k) ?_
  show Go p e below _ (s₁.setTop (mkF m 32 #[.val (.long q1), .second, .val (.long v4), .second] [(.int (31 : Int32)), (.long v4), (.long v4)]))
  refine Go.step (fun t k => XS.lushr X0.here hx rfl (hb hby d1_32) rfl k) ?_
  show Go p e below _ (s₁.setTop (mkF m 33 #[.val (.long q1), .second, .val (.long v4), .second] [(.long ((v4.toUInt64 >>> ((31 : Int32) &&& 0x3f).toInt64.toUInt64).toInt64)), (.long v4)]))
  refine Go.step (fun t k => XS.lxor X0.here hx rfl (hb hby d1_33) rfl k) ?_
  show Go p e below _ (s₁.setTop (mkF m 34 #[.val (.long q1), .second, .val (.long v4), .second] [(.long (v4 ^^^ ((v4.toUInt64 >>> ((31 : Int32) &&& 0x3f).toInt64.toUInt64).toInt64)))]))
  subst hv4
  subst hv3
  subst hv2
  exact retGJ X0 hx Bd.notSynchronized Bd.returns (hb hby d1_34) ⟨by first | rfl | (simp only [f1]; done) | (simp [f1]; done), N0, e0⟩ (by decide) (by decide)
theorem d3_0 : decode method_2_code 0 = .ok (.lload_n 0, 1) := by decide +kernel
theorem d3_1 : decode method_2_code 1 = .ok (.lstore_n 2, 1) := by decide +kernel
theorem d3_2 : decode method_2_code 2 = .ok (.lload_n 2, 1) := by decide +kernel
theorem d3_3 : decode method_2_code 3 = .ok (.ldc2_w 7, 3) := by decide +kernel
theorem d3_6 : decode method_2_code 6 = .ok (.lload_n 0, 1) := by decide +kernel
theorem d3_7 : decode method_2_code 7 = .ok (.lload_n 2, 1) := by decide +kernel
theorem d3_8 : decode method_2_code 8 = .ok (.lmul, 1) := by decide +kernel
theorem d3_9 : decode method_2_code 9 = .ok (.lsub, 1) := by decide +kernel
theorem d3_10 : decode method_2_code 10 = .ok (.lmul, 1) := by decide +kernel
theorem d3_11 : decode method_2_code 11 = .ok (.lstore_n 2, 1) := by decide +kernel
theorem d3_12 : decode method_2_code 12 = .ok (.lload_n 2, 1) := by decide +kernel
theorem d3_13 : decode method_2_code 13 = .ok (.ldc2_w 7, 3) := by decide +kernel
theorem d3_16 : decode method_2_code 16 = .ok (.lload_n 0, 1) := by decide +kernel
theorem d3_17 : decode method_2_code 17 = .ok (.lload_n 2, 1) := by decide +kernel
theorem d3_18 : decode method_2_code 18 = .ok (.lmul, 1) := by decide +kernel
theorem d3_19 : decode method_2_code 19 = .ok (.lsub, 1) := by decide +kernel
theorem d3_20 : decode method_2_code 20 = .ok (.lmul, 1) := by decide +kernel
theorem d3_21 : decode method_2_code 21 = .ok (.lstore_n 2, 1) := by decide +kernel
theorem d3_22 : decode method_2_code 22 = .ok (.lload_n 2, 1) := by decide +kernel
theorem d3_23 : decode method_2_code 23 = .ok (.ldc2_w 7, 3) := by decide +kernel
theorem d3_26 : decode method_2_code 26 = .ok (.lload_n 0, 1) := by decide +kernel
theorem d3_27 : decode method_2_code 27 = .ok (.lload_n 2, 1) := by decide +kernel
theorem d3_28 : decode method_2_code 28 = .ok (.lmul, 1) := by decide +kernel
theorem d3_29 : decode method_2_code 29 = .ok (.lsub, 1) := by decide +kernel
theorem d3_30 : decode method_2_code 30 = .ok (.lmul, 1) := by decide +kernel
theorem d3_31 : decode method_2_code 31 = .ok (.lstore_n 2, 1) := by decide +kernel
theorem d3_32 : decode method_2_code 32 = .ok (.lload_n 2, 1) := by decide +kernel
theorem d3_33 : decode method_2_code 33 = .ok (.ldc2_w 7, 3) := by decide +kernel
theorem d3_36 : decode method_2_code 36 = .ok (.lload_n 0, 1) := by decide +kernel
theorem d3_37 : decode method_2_code 37 = .ok (.lload_n 2, 1) := by decide +kernel
theorem d3_38 : decode method_2_code 38 = .ok (.lmul, 1) := by decide +kernel
theorem d3_39 : decode method_2_code 39 = .ok (.lsub, 1) := by decide +kernel
theorem d3_40 : decode method_2_code 40 = .ok (.lmul, 1) := by decide +kernel
theorem d3_41 : decode method_2_code 41 = .ok (.lstore_n 2, 1) := by decide +kernel
theorem d3_42 : decode method_2_code 42 = .ok (.lload_n 2, 1) := by decide +kernel
theorem d3_43 : decode method_2_code 43 = .ok (.ldc2_w 7, 3) := by decide +kernel
theorem d3_46 : decode method_2_code 46 = .ok (.lload_n 0, 1) := by decide +kernel
theorem d3_47 : decode method_2_code 47 = .ok (.lload_n 2, 1) := by decide +kernel
theorem d3_48 : decode method_2_code 48 = .ok (.lmul, 1) := by decide +kernel
theorem d3_49 : decode method_2_code 49 = .ok (.lsub, 1) := by decide +kernel
theorem d3_50 : decode method_2_code 50 = .ok (.lmul, 1) := by decide +kernel
theorem d3_51 : decode method_2_code 51 = .ok (.lstore_n 2, 1) := by decide +kernel
theorem d3_52 : decode method_2_code 52 = .ok (.lload_n 2, 1) := by decide +kernel
theorem d3_53 : decode method_2_code 53 = .ok (.lreturn, 1) := by decide +kernel
theorem ef_3 (m : MethodId) (q1 : Int64) : entryFrame m #[(.long q1)] 4 = mkF m 0 #[.val (.long q1), .second, .unset, .unset] [] := by first | (simp [entryFrame, mkF, argsToLocals, Value.category]; done) | rfl
theorem pn_1 : plainName "com/example/arnero/arnero/HashSchemeStridePinLaw" = true := by first | (simp [plainName, overriddenIn]; done) | decide +kernel
def f3 (q1 : Int64) : Int64 := (((((q1 * ((2 : Int64) - (q1 * q1))) * ((2 : Int64) - (q1 * (q1 * ((2 : Int64) - (q1 * q1)))))) * ((2 : Int64) - (q1 * ((q1 * ((2 : Int64) - (q1 * q1))) * ((2 : Int64) - (q1 * (q1 * ((2 : Int64) - (q1 * q1))))))))) * ((2 : Int64) - (q1 * (((q1 * ((2 : Int64) - (q1 * q1))) * ((2 : Int64) - (q1 * (q1 * ((2 : Int64) - (q1 * q1)))))) * ((2 : Int64) - (q1 * ((q1 * ((2 : Int64) - (q1 * q1))) * ((2 : Int64) - (q1 * (q1 * ((2 : Int64) - (q1 * q1)))))))))))) * ((2 : Int64) - (q1 * ((((q1 * ((2 : Int64) - (q1 * q1))) * ((2 : Int64) - (q1 * (q1 * ((2 : Int64) - (q1 * q1)))))) * ((2 : Int64) - (q1 * ((q1 * ((2 : Int64) - (q1 * q1))) * ((2 : Int64) - (q1 * (q1 * ((2 : Int64) - (q1 * q1))))))))) * ((2 : Int64) - (q1 * (((q1 * ((2 : Int64) - (q1 * q1))) * ((2 : Int64) - (q1 * (q1 * ((2 : Int64) - (q1 * q1)))))) * ((2 : Int64) - (q1 * ((q1 * ((2 : Int64) - (q1 * q1))) * ((2 : Int64) - (q1 * (q1 * ((2 : Int64) - (q1 * q1)))))))))))))))
set_option maxRecDepth 65536 in
set_option maxHeartbeats 40000000 in
theorem rm3 (l : Launch) (Z : State) (a0 : Array Value) (hw : ∀ d ∈ tables_1, d.before a0 Z = true) (ws : List Jvm.Cond) (q1 : Int64) (h0 : Heap) (n0 : Nat) (Z0 : n0 ≤ h0.size) :
    MetFree l (⟨"com/example/arnero/arnero/HashSchemeStridePinLaw", "inverseOf", "(J)J"⟩ : MethodName) (head1 (Jvm.Cond.code (⟨"com/example/arnero/arnero/HashSchemeStridePinLaw", "inverseOf", "(J)J"⟩ : MethodName) method_2_code 4 (some .long) :: ws) ({ frames := 0, cells := 0, slots := 0, locals := 0 } : Room)) (fun a U => a = #[(.long q1)] ∧ Z.Warmed39 U.vm ∧ U.heap = h0) (fun _ _ _ _ _ => True) (fun _ U o U' => ∃ v L, o = .returned v ∧ QP (.long (f3 q1)) h0 n0 v U'.heap L ∧ FrameEnd U o U' L ({ frames := 0, cells := 0, slots := 0, locals := 0 } : Room).cells ({ frames := 0, cells := 0, slots := 0, locals := 0 } : Room).slots) := by
  refine MetFree.of_bodySF (plainFor_of_name pn_1) hisR ?_
  intro p e s m args below meth c s₁ Bd hml0 hP hK
  obtain ⟨rfl, hZ, hh⟩ := hP
  have hx := Bd.exec
  have hby := Bd.bytes
  have hml : c.maxLocals = 4 := hml0
  have hown : s.vm.findClass "com/example/arnero/arnero/HashSchemeStridePinLaw" = some m.cls := findClass_of_methodNamed Bd.named
  have hnm := (name_of_methodNamed Bd.named Bd.method).1
  have X0 : Stand p l e ({ frames := 0, cells := 0, slots := 0, locals := 0 } : Room) s m #[(.long q1)] below meth c s₁ [] 0 0 := Stand.of_body Bd
  have e0 : s₁.heap = h0 := by rw [← hh, Bd.state]; rfl
  have N0 := Fr.nil n0
  refine Go.done (Go.step (fun t k => castTop (ef_3 m q1) k) ?_)
  show Go p e below _ (s₁.setTop (mkF m 0 #[.val (.long q1), .second, .unset, .unset] []))
  refine Go.step (fun t k => XS.lloadN X0.here hx rfl (hb hby d3_0) rfl k) ?_
  show Go p e below _ (s₁.setTop (mkF m 1 #[.val (.long q1), .second, .unset, .unset] [(.long q1)]))
  refine Go.step (fun t k => XS.lstoreN X0.here hx rfl (hb hby d3_1) rfl (l' := #[.val (.long q1), .second, .val (.long q1), .second]) rfl k) ?_
  show Go p e below _ (s₁.setTop (mkF m 2 #[.val (.long q1), .second, .val (.long q1), .second] []))
  refine Go.step (fun t k => XS.lloadN X0.here hx rfl (hb hby d3_2) rfl k) ?_
  show Go p e below _ (s₁.setTop (mkF m 3 #[.val (.long q1), .second, .val (.long q1), .second] [(.long q1)]))
  refine Go.step (X0.ldc2Long hx hown (mvT hZ (hw _ (List.mem_of_getElem? (i := 15) rfl))) (g := (mkF m 3 #[.val (.long q1), .second, .val (.long q1), .second] [(.long q1)])) rfl (hb hby d3_3)) ?_
  show Go p e below _ (s₁.setTop (mkF m 6 #[.val (.long q1), .second, .val (.long q1), .second] [(.long (2 : Int64)), (.long q1)]))
  refine Go.step (fun t k => XS.lloadN X0.here hx rfl (hb hby d3_6) rfl k) ?_
  show Go p e below _ (s₁.setTop (mkF m 7 #[.val (.long q1), .second, .val (.long q1), .second] [(.long q1), (.long (2 : Int64)), (.long q1)]))
  refine Go.step (fun t k => XS.lloadN X0.here hx rfl (hb hby d3_7) rfl k) ?_
  show Go p e below _ (s₁.setTop (mkF m 8 #[.val (.long q1), .second, .val (.long q1), .second] [(.long q1), (.long q1), (.long (2 : Int64)), (.long q1)]))
  refine Go.step (fun t k => XS.lmul X0.here hx rfl (hb hby d3_8) rfl k) ?_
  show Go p e below _ (s₁.setTop (mkF m 9 #[.val (.long q1), .second, .val (.long q1), .second] [(.long (q1 * q1)), (.long (2 : Int64)), (.long q1)]))
  refine Go.step (fun t k => XS.lsub X0.here hx rfl (hb hby d3_9) rfl k) ?_
  show Go p e below _ (s₁.setTop (mkF m 10 #[.val (.long q1), .second, .val (.long q1), .second] [(.long ((2 : Int64) - (q1 * q1))), (.long q1)]))
  refine Go.step (fun t k => XS.lmul X0.here hx rfl (hb hby d3_10) rfl k) ?_
  show Go p e below _ (s₁.setTop (mkF m 11 #[.val (.long q1), .second, .val (.long q1), .second] [(.long (q1 * ((2 : Int64) - (q1 * q1))))]))
  obtain ⟨v2, hv2⟩ : ∃ z : Int64, z = (q1 * ((2 : Int64) - (q1 * q1))) := ⟨_, rfl⟩
  rw [← hv2]
  show Go p e below _ (s₁.setTop (mkF m 11 #[.val (.long q1), .second, .val (.long q1), .second] [(.long v2)]))
  refine Go.step (fun t k => XS.lstoreN X0.here hx rfl (hb hby d3_11) rfl (l' := #[.val (.long q1), .second, .val (.long v2), .second]) rfl k) ?_
  show Go p e below _ (s₁.setTop (mkF m 12 #[.val (.long q1), .second, .val (.long v2), .second] []))
  refine Go.step (fun t k => XS.lloadN X0.here hx rfl (hb hby d3_12) rfl k) ?_
  show Go p e below _ (s₁.setTop (mkF m 13 #[.val (.long q1), .second, .val (.long v2), .second] [(.long v2)]))
  refine Go.step (X0.ldc2Long hx hown (mvT hZ (hw _ (List.mem_of_getElem? (i := 15) rfl))) (g := (mkF m 13 #[.val (.long q1), .second, .val (.long v2), .second] [(.long v2)])) rfl (hb hby d3_13)) ?_
  show Go p e below _ (s₁.setTop (mkF m 16 #[.val (.long q1), .second, .val (.long v2), .second] [(.long (2 : Int64)), (.long v2)]))
  refine Go.step (fun t k => XS.lloadN X0.here hx rfl (hb hby d3_16) rfl k) ?_
  show Go p e below _ (s₁.setTop (mkF m 17 #[.val (.long q1), .second, .val (.long v2), .second] [(.long q1), (.long (2 : Int64)), (.long v2)]))
  refine Go.step (fun t k => XS.lloadN X0.here hx rfl (hb hby d3_17) rfl k) ?_
  show Go p e below _ (s₁.setTop (mkF m 18 #[.val (.long q1), .second, .val (.long v2), .second] [(.long v2), (.long q1), (.long (2 : Int64)), (.long v2)]))
  refine Go.step (fun t k => XS.lmul X0.here hx rfl (hb hby d3_18) rfl k) ?_
  show Go p e below _ (s₁.setTop (mkF m 19 #[.val (.long q1), .second, .val (.long v2), .second] [(.long (q1 * v2)), (.long (2 : Int64)), (.long v2)]))
  refine Go.step (fun t k => XS.lsub X0.here hx rfl (hb hby d3_19) rfl k) ?_
  show Go p e below _ (s₁.setTop (mkF m 20 #[.val (.long q1), .second, .val (.long v2), .second] [(.long ((2 : Int64) - (q1 * v2))), (.long v2)]))
  refine Go.step (fun t k => XS.lmul X0.here hx rfl (hb hby d3_20) rfl k) ?_
  show Go p e below _ (s₁.setTop (mkF m 21 #[.val (.long q1), .second, .val (.long v2), .second] [(.long (v2 * ((2 : Int64) - (q1 * v2))))]))
  obtain ⟨v3, hv3⟩ : ∃ z : Int64, z = (v2 * ((2 : Int64) - (q1 * v2))) := ⟨_, rfl⟩
  rw [← hv3]
  show Go p e below _ (s₁.setTop (mkF m 21 #[.val (.long q1), .second, .val (.long v2), .second] [(.long v3)]))
  refine Go.step (fun t k => XS.lstoreN X0.here hx rfl (hb hby d3_21) rfl (l' := #[.val (.long q1), .second, .val (.long v3), .second]) rfl k) ?_
  show Go p e below _ (s₁.setTop (mkF m 22 #[.val (.long q1), .second, .val (.long v3), .second] []))
  refine Go.step (fun t k => XS.lloadN X0.here hx rfl (hb hby d3_22) rfl k) ?_
  show Go p e below _ (s₁.setTop (mkF m 23 #[.val (.long q1), .second, .val (.long v3), .second] [(.long v3)]))
  refine Go.step (X0.ldc2Long hx hown (mvT hZ (hw _ (List.mem_of_getElem? (i := 15) rfl))) (g := (mkF m 23 #[.val (.long q1), .second, .val (.long v3), .second] [(.long v3)])) rfl (hb hby d3_23)) ?_
  show Go p e below _ (s₁.setTop (mkF m 26 #[.val (.long q1), .second, .val (.long v3), .second] [(.long (2 : Int64)), (.long v3)]))
  refine Go.step (fun t k => XS.lloadN X0.here hx rfl (hb hby d3_26) rfl k) ?_
  show Go p e below _ (s₁.setTop (mkF m 27 #[.val (.long q1), .second, .val (.long v3), .second] [(.long q1), (.long (2 : Int64)), (.long v3)]))
  refine Go.step (fun t k => XS.lloadN X0.here hx rfl (hb hby d3_27) rfl k) ?_
  show Go p e below _ (s₁.setTop (mkF m 28 #[.val (.long q1), .second, .val (.long v3), .second] [(.long v3), (.long q1), (.long (2 : Int64)), (.long v3)]))
  refine Go.step (fun t k => XS.lmul X0.here hx rfl (hb hby d3_28) rfl k) ?_
  show Go p e below _ (s₁.setTop (mkF m 29 #[.val (.long q1), .second, .val (.long v3), .second] [(.long (q1 * v3)), (.long (2 : Int64)), (.long v3)]))
  refine Go.step (fun t k => XS.lsub X0.here hx rfl (hb hby d3_29) rfl k) ?_
  show Go p e below _ (s₁.setTop (mkF m 30 #[.val (.long q1), .second, .val (.long v3), .second] [(.long ((2 : Int64) - (q1 * v3))), (.long v3)]))
  refine Go.step (fun t k => XS.lmul X0.here hx rfl (hb hby d3_30) rfl k) ?_
  show Go p e below _ (s₁.setTop (mkF m 31 #[.val (.long q1), .second, .val (.long v3), .second] [(.long (v3 * ((2 : Int64) - (q1 * v3))))]))
  obtain ⟨v4, hv4⟩ : ∃ z : Int64, z = (v3 * ((2 : Int64) - (q1 * v3))) := ⟨_, rfl⟩
  rw [← hv4]
  show Go p e below _ (s₁.setTop (mkF m 31 #[.val (.long q1), .second, .val (.long v3), .second] [(.long v4)]))
  refine Go.step (fun t k => XS.lstoreN X0.here hx rfl (hb hby d3_31) rfl (l' := #[.val (.long q1), .second, .val (.long v4), .second]) rfl k) ?_
  show Go p e below _ (s₁.setTop (mkF m 32 #[.val (.long q1), .second, .val (.long v4), .second] []))
  refine Go.step (fun t k => XS.lloadN X0.here hx rfl (hb hby d3_32) rfl k) ?_
  show Go p e below _ (s₁.setTop (mkF m 33 #[.val (.long q1), .second, .val (.long v4), .second] [(.long v4)]))
  refine Go.step (X0.ldc2Long hx hown (mvT hZ (hw _ (List.mem_of_getElem? (i := 15) rfl))) (g := (mkF m 33 #[.val (.long q1), .second, .val (.long v4), .second] [(.long v4)])) rfl (hb hby d3_33)) ?_
  show Go p e below _ (s₁.setTop (mkF m 36 #[.val (.long q1), .second, .val (.long v4), .second] [(.long (2 : Int64)), (.long v4)]))
  refine Go.step (fun t k => XS.lloadN X0.here hx rfl (hb hby d3_36) rfl k) ?_
  show Go p e below _ (s₁.setTop (mkF m 37 #[.val (.long q1), .second, .val (.long v4), .second] [(.long q1), (.long (2 : Int64)), (.long v4)]))
  refine Go.step (fun t k => XS.lloadN X0.here hx rfl (hb hby d3_37) rfl k) ?_
  show Go p e below _ (s₁.setTop (mkF m 38 #[.val (.long q1), .second, .val (.long v4), .second] [(.long v4), (.long q1), (.long (2 : Int64)), (.long v4)]))
  refine Go.step (fun t k => XS.lmul X0.here hx rfl (hb hby d3_38) rfl k) ?_
  show Go p e below _ (s₁.setTop (mkF m 39 #[.val (.long q1), .second, .val (.long v4), .second] [(.long (q1 * v4)), (.long (2 : Int64)), (.long v4)]))
  refine Go.step (fun t k => XS.lsub X0.here hx rfl (hb hby d3_39) rfl k) ?_
  show Go p e below _ (s₁.setTop (mkF m 40 #[.val (.long q1), .second, .val (.long v4), .second] [(.long ((2 : Int64) - (q1 * v4))), (.long v4)]))
  refine Go.step (fun t k => XS.lmul X0.here hx rfl (hb hby d3_40) rfl k) ?_
  show Go p e below _ (s₁.setTop (mkF m 41 #[.val (.long q1), .second, .val (.long v4), .second] [(.long (v4 * ((2 : Int64) - (q1 * v4))))]))
  obtain ⟨v5, hv5⟩ : ∃ z : Int64, z = (v4 * ((2 : Int64) - (q1 * v4))) := ⟨_, rfl⟩
  rw [← hv5]
  show Go p e below _ (s₁.setTop (mkF m 41 #[.val (.long q1), .second, .val (.long v4), .second] [(.long v5)]))
  refine Go.step (fun t k => XS.lstoreN X0.here hx rfl (hb hby d3_41) rfl (l' := #[.val (.long q1), .second, .val (.long v5), .second]) rfl k) ?_
  show Go p e below _ (s₁.setTop (mkF m 42 #[.val (.long q1), .second, .val (.long v5), .second] []))
  refine Go.step (fun t k => XS.lloadN X0.here hx rfl (hb hby d3_42) rfl k) ?_
  show Go p e below _ (s₁.setTop (mkF m 43 #[.val (.long q1), .second, .val (.long v5), .second] [(.long v5)]))
  refine Go.step (X0.ldc2Long hx hown (mvT hZ (hw _ (List.mem_of_getElem? (i := 15) rfl))) (g := (mkF m 43 #[.val (.long q1), .second, .val (.long v5), .second] [(.long v5)])) rfl (hb hby d3_43)) ?_
  show Go p e below _ (s₁.setTop (mkF m 46 #[.val (.long q1), .second, .val (.long v5), .second] [(.long (2 : Int64)), (.long v5)]))
  refine Go.step (fun t k => XS.lloadN X0.here hx rfl (hb hby d3_46) rfl k) ?_
  show Go p e below _ (s₁.setTop (mkF m 47 #[.val (.long q1), .second, .val (.long v5), .second] [(.long q1), (.long (2 : Int64)), (.long v5)]))
  refine Go.step (fun t k => XS.lloadN X0.here hx rfl (hb hby d3_47) rfl k) ?_
  show Go p e below _ (s₁.setTop (mkF m 48 #[.val (.long q1), .second, .val (.long v5), .second] [(.long v5), (.long q1), (.long (2 : Int64)), (.long v5)]))
  refine Go.step (fun t k => XS.lmul X0.here hx rfl (hb hby d3_48) rfl k) ?_
  show Go p e below _ (s₁.setTop (mkF m 49 #[.val (.long q1), .second, .val (.long v5), .second] [(.long (q1 * v5)), (.long (2 : Int64)), (.long v5)]))
  refine Go.step (fun t k => XS.lsub X0.here hx rfl (hb hby d3_49) rfl k) ?_
  show Go p e below _ (s₁.setTop (mkF m 50 #[.val (.long q1), .second, .val (.long v5), .second] [(.long ((2 : Int64) - (q1 * v5))), (.long v5)]))
  refine Go.step (fun t k => XS.lmul X0.here hx rfl (hb hby d3_50) rfl k) ?_
  show Go p e below _ (s₁.setTop (mkF m 51 #[.val (.long q1), .second, .val (.long v5), .second] [(.long (v5 * ((2 : Int64) - (q1 * v5))))]))
  obtain ⟨v6, hv6⟩ : ∃ z : Int64, z = (v5 * ((2 : Int64) - (q1 * v5))) := ⟨_, rfl⟩
  rw [← hv6]
  show Go p e below _ (s₁.setTop (mkF m 51 #[.val (.long q1), .second, .val (.long v5), .second] [(.long v6)]))
  refine Go.step (fun t k => XS.lstoreN X0.here hx rfl (hb hby d3_51) rfl (l' := #[.val (.long q1), .second, .val (.long v6), .second]) rfl k) ?_
  show Go p e below _ (s₁.setTop (mkF m 52 #[.val (.long q1), .second, .val (.long v6), .second] []))
  refine Go.step (fun t k => XS.lloadN X0.here hx rfl (hb hby d3_52) rfl k) ?_
  show Go p e below _ (s₁.setTop (mkF m 53 #[.val (.long q1), .second, .val (.long v6), .second] [(.long v6)]))
  subst hv6
  subst hv5
  subst hv4
  subst hv3
  subst hv2
  exact retGJ X0 hx Bd.notSynchronized Bd.returns (hb hby d3_53) ⟨by first | rfl | (simp only [f3]; done) | (simp [f3]; done), N0, e0⟩ (by decide) (by decide)
theorem d2_0 : decode method_3_code 0 = .ok (.lload_n 0, 1) := by decide +kernel
theorem d2_1 : decode method_3_code 1 = .ok (.lstore_n 2, 1) := by decide +kernel
theorem d2_2 : decode method_3_code 2 = .ok (.lload_n 2, 1) := by decide +kernel
theorem d2_3 : decode method_3_code 3 = .ok (.lload_n 2, 1) := by decide +kernel
theorem d2_4 : decode method_3_code 4 = .ok (.bipush 31, 2) := by decide +kernel
theorem d2_6 : decode method_3_code 6 = .ok (.lushr, 1) := by decide +kernel
theorem d2_7 : decode method_3_code 7 = .ok (.lxor, 1) := by decide +kernel
theorem d2_8 : decode method_3_code 8 = .ok (.lload_n 2, 1) := by decide +kernel
theorem d2_9 : decode method_3_code 9 = .ok (.bipush 62, 2) := by decide +kernel
theorem d2_11 : decode method_3_code 11 = .ok (.lushr, 1) := by decide +kernel
theorem d2_12 : decode method_3_code 12 = .ok (.lxor, 1) := by decide +kernel
theorem d2_13 : decode method_3_code 13 = .ok (.lstore_n 2, 1) := by decide +kernel
theorem d2_14 : decode method_3_code 14 = .ok (.lload_n 2, 1) := by decide +kernel
theorem d2_15 : decode method_3_code 15 = .ok (.ldc2_w 11, 3) := by decide +kernel
theorem d2_18 : decode method_3_code 18 = .ok (.invokestatic 13, 3) := by decide +kernel
theorem pd_0 : parseMethodDescriptor "(J)J" = some ⟨[.long], some .long⟩ := by decide +kernel
theorem d2_21 : decode method_3_code 21 = .ok (.lmul, 1) := by decide +kernel
theorem d2_22 : decode method_3_code 22 = .ok (.lstore_n 2, 1) := by decide +kernel
theorem d2_23 : decode method_3_code 23 = .ok (.lload_n 2, 1) := by decide +kernel
theorem d2_24 : decode method_3_code 24 = .ok (.lload_n 2, 1) := by decide +kernel
theorem d2_25 : decode method_3_code 25 = .ok (.bipush 27, 2) := by decide +kernel
theorem d2_27 : decode method_3_code 27 = .ok (.lushr, 1) := by decide +kernel
theorem d2_28 : decode method_3_code 28 = .ok (.lxor, 1) := by decide +kernel
theorem d2_29 : decode method_3_code 29 = .ok (.lload_n 2, 1) := by decide +kernel
theorem d2_30 : decode method_3_code 30 = .ok (.bipush 54, 2) := by decide +kernel
theorem d2_32 : decode method_3_code 32 = .ok (.lushr, 1) := by decide +kernel
theorem d2_33 : decode method_3_code 33 = .ok (.lxor, 1) := by decide +kernel
theorem d2_34 : decode method_3_code 34 = .ok (.lstore_n 2, 1) := by decide +kernel
theorem d2_35 : decode method_3_code 35 = .ok (.lload_n 2, 1) := by decide +kernel
theorem d2_36 : decode method_3_code 36 = .ok (.ldc2_w 17, 3) := by decide +kernel
theorem d2_39 : decode method_3_code 39 = .ok (.invokestatic 13, 3) := by decide +kernel
theorem d2_42 : decode method_3_code 42 = .ok (.lmul, 1) := by decide +kernel
theorem d2_43 : decode method_3_code 43 = .ok (.lstore_n 2, 1) := by decide +kernel
theorem d2_44 : decode method_3_code 44 = .ok (.lload_n 2, 1) := by decide +kernel
theorem d2_45 : decode method_3_code 45 = .ok (.lload_n 2, 1) := by decide +kernel
theorem d2_46 : decode method_3_code 46 = .ok (.bipush 30, 2) := by decide +kernel
theorem d2_48 : decode method_3_code 48 = .ok (.lushr, 1) := by decide +kernel
theorem d2_49 : decode method_3_code 49 = .ok (.lxor, 1) := by decide +kernel
theorem d2_50 : decode method_3_code 50 = .ok (.lload_n 2, 1) := by decide +kernel
theorem d2_51 : decode method_3_code 51 = .ok (.bipush 60, 2) := by decide +kernel
theorem d2_53 : decode method_3_code 53 = .ok (.lushr, 1) := by decide +kernel
theorem d2_54 : decode method_3_code 54 = .ok (.lxor, 1) := by decide +kernel
theorem d2_55 : decode method_3_code 55 = .ok (.lstore_n 2, 1) := by decide +kernel
theorem d2_56 : decode method_3_code 56 = .ok (.lload_n 2, 1) := by decide +kernel
theorem d2_57 : decode method_3_code 57 = .ok (.ldc2_w 19, 3) := by decide +kernel
theorem d2_60 : decode method_3_code 60 = .ok (.lsub, 1) := by decide +kernel
theorem d2_61 : decode method_3_code 61 = .ok (.lreturn, 1) := by decide +kernel
theorem ef_2 (m : MethodId) (q1 : Int64) : entryFrame m #[(.long q1)] 4 = mkF m 0 #[.val (.long q1), .second, .unset, .unset] [] := by first | (simp [entryFrame, mkF, argsToLocals, Value.category]; done) | rfl
def f2 (q1 : Int64) : Int64 := (((((((((q1 ^^^ ((q1.toUInt64 >>> ((31 : Int32) &&& 0x3f).toInt64.toUInt64).toInt64)) ^^^ ((q1.toUInt64 >>> ((62 : Int32) &&& 0x3f).toInt64.toUInt64).toInt64)) * (f3 (-7723592293110705685 : Int64))) ^^^ (((((q1 ^^^ ((q1.toUInt64 >>> ((31 : Int32) &&& 0x3f).toInt64.toUInt64).toInt64)) ^^^ ((q1.toUInt64 >>> ((62 : Int32) &&& 0x3f).toInt64.toUInt64).toInt64)) * (f3 (-7723592293110705685 : Int64))).toUInt64 >>> ((27 : Int32) &&& 0x3f).toInt64.toUInt64).toInt64)) ^^^ (((((q1 ^^^ ((q1.toUInt64 >>> ((31 : Int32) &&& 0x3f).toInt64.toUInt64).toInt64)) ^^^ ((q1.toUInt64 >>> ((62 : Int32) &&& 0x3f).toInt64.toUInt64).toInt64)) * (f3 (-7723592293110705685 : Int64))).toUInt64 >>> ((54 : Int32) &&& 0x3f).toInt64.toUInt64).toInt64)) * (f3 (-4658895280553007687 : Int64))) ^^^ ((((((((q1 ^^^ ((q1.toUInt64 >>> ((31 : Int32) &&& 0x3f).toInt64.toUInt64).toInt64)) ^^^ ((q1.toUInt64 >>> ((62 : Int32) &&& 0x3f).toInt64.toUInt64).toInt64)) * (f3 (-7723592293110705685 : Int64))) ^^^ (((((q1 ^^^ ((q1.toUInt64 >>> ((31 : Int32) &&& 0x3f).toInt64.toUInt64).toInt64)) ^^^ ((q1.toUInt64 >>> ((62 : Int32) &&& 0x3f).toInt64.toUInt64).toInt64)) * (f3 (-7723592293110705685 : Int64))).toUInt64 >>> ((27 : Int32) &&& 0x3f).toInt64.toUInt64).toInt64)) ^^^ (((((q1 ^^^ ((q1.toUInt64 >>> ((31 : Int32) &&& 0x3f).toInt64.toUInt64).toInt64)) ^^^ ((q1.toUInt64 >>> ((62 : Int32) &&& 0x3f).toInt64.toUInt64).toInt64)) * (f3 (-7723592293110705685 : Int64))).toUInt64 >>> ((54 : Int32) &&& 0x3f).toInt64.toUInt64).toInt64)) * (f3 (-4658895280553007687 : Int64))).toUInt64 >>> ((30 : Int32) &&& 0x3f).toInt64.toUInt64).toInt64)) ^^^ ((((((((q1 ^^^ ((q1.toUInt64 >>> ((31 : Int32) &&& 0x3f).toInt64.toUInt64).toInt64)) ^^^ ((q1.toUInt64 >>> ((62 : Int32) &&& 0x3f).toInt64.toUInt64).toInt64)) * (f3 (-7723592293110705685 : Int64))) ^^^ (((((q1 ^^^ ((q1.toUInt64 >>> ((31 : Int32) &&& 0x3f).toInt64.toUInt64).toInt64)) ^^^ ((q1.toUInt64 >>> ((62 : Int32) &&& 0x3f).toInt64.toUInt64).toInt64)) * (f3 (-7723592293110705685 : Int64))).toUInt64 >>> ((27 : Int32) &&& 0x3f).toInt64.toUInt64).toInt64)) ^^^ (((((q1 ^^^ ((q1.toUInt64 >>> ((31 : Int32) &&& 0x3f).toInt64.toUInt64).toInt64)) ^^^ ((q1.toUInt64 >>> ((62 : Int32) &&& 0x3f).toInt64.toUInt64).toInt64)) * (f3 (-7723592293110705685 : Int64))).toUInt64 >>> ((54 : Int32) &&& 0x3f).toInt64.toUInt64).toInt64)) * (f3 (-4658895280553007687 : Int64))).toUInt64 >>> ((60 : Int32) &&& 0x3f).toInt64.toUInt64).toInt64)) - (-7046029254386353131 : Int64))
set_option maxRecDepth 65536 in
set_option maxHeartbeats 40000000 in
theorem rm2 (l : Launch) (Z : State) (a0 : Array Value) (hw : ∀ d ∈ tables_1, d.before a0 Z = true) (ws : List Jvm.Cond) (q1 : Int64) (h0 : Heap) (n0 : Nat) (Z0 : n0 ≤ h0.size) :
    MetFree l (⟨"com/example/arnero/arnero/HashSchemeStridePinLaw", "unstride", "(J)J"⟩ : MethodName) (head1 (Jvm.Cond.code (⟨"com/example/arnero/arnero/HashSchemeStridePinLaw", "unstride", "(J)J"⟩ : MethodName) method_3_code 4 (some .long) :: ws) ({ frames := 1, cells := 0, slots := 0, locals := 17 } : Room)) (fun a U => a = #[(.long q1)] ∧ Z.Warmed39 U.vm ∧ U.heap = h0) (fun _ _ _ _ _ => True) (fun _ U o U' => ∃ v L, o = .returned v ∧ QP (.long (f2 q1)) h0 n0 v U'.heap L ∧ FrameEnd U o U' L ({ frames := 1, cells := 0, slots := 0, locals := 17 } : Room).cells ({ frames := 1, cells := 0, slots := 0, locals := 17 } : Room).slots) := by
  refine MetFree.of_bodySF (plainFor_of_name pn_1) hisR ?_
  intro p e s m args below meth c s₁ Bd hml0 hP hK
  obtain ⟨rfl, hZ, hh⟩ := hP
  have hx := Bd.exec
  have hby := Bd.bytes
  have hml : c.maxLocals = 4 := hml0
  have hown : s.vm.findClass "com/example/arnero/arnero/HashSchemeStridePinLaw" = some m.cls := findClass_of_methodNamed Bd.named
  have hnm := (name_of_methodNamed Bd.named Bd.method).1
  have X0 : Stand p l e ({ frames := 1, cells := 0, slots := 0, locals := 17 } : Room) s m #[(.long q1)] below meth c s₁ [] 0 0 := Stand.of_body Bd
  have e0 : s₁.heap = h0 := by rw [← hh, Bd.state]; rfl
  have N0 := Fr.nil n0
  refine Go.done (Go.step (fun t k => castTop (ef_2 m q1) k) ?_)
  show Go p e below _ (s₁.setTop (mkF m 0 #[.val (.long q1), .second, .unset, .unset] []))
  refine Go.step (fun t k => XS.lloadN X0.here hx rfl (hb hby d2_0) rfl k) ?_
  show Go p e below _ (s₁.setTop (mkF m 1 #[.val (.long q1), .second, .unset, .unset] [(.long q1)]))
  refine Go.step (fun t k => XS.lstoreN X0.here hx rfl (hb hby d2_1) rfl (l' := #[.val (.long q1), .second, .val (.long q1), .second]) rfl k) ?_
  show Go p e below _ (s₁.setTop (mkF m 2 #[.val (.long q1), .second, .val (.long q1), .second] []))
  refine Go.step (fun t k => XS.lloadN X0.here hx rfl (hb hby d2_2) rfl k) ?_
  show Go p e below _ (s₁.setTop (mkF m 3 #[.val (.long q1), .second, .val (.long q1), .second] [(.long q1)]))
  refine Go.step (fun t k => XS.lloadN X0.here hx rfl (hb hby d2_3) rfl k) ?_
  show Go p e below _ (s₁.setTop (mkF m 4 #[.val (.long q1), .second, .val (.long q1), .second] [(.long q1), (.long q1)]))
  refine Go.step (fun t k => XS.bipush X0.here hx rfl (hb hby d2_4)  k) ?_
  show Go p e below _ (s₁.setTop (mkF m 6 #[.val (.long q1), .second, .val (.long q1), .second] [(.int (31 : Int32)), (.long q1), (.long q1)]))
  refine Go.step (fun t k => XS.lushr X0.here hx rfl (hb hby d2_6) rfl k) ?_
  show Go p e below _ (s₁.setTop (mkF m 7 #[.val (.long q1), .second, .val (.long q1), .second] [(.long ((q1.toUInt64 >>> ((31 : Int32) &&& 0x3f).toInt64.toUInt64).toInt64)), (.long q1)]))
  refine Go.step (fun t k => XS.lxor X0.here hx rfl (hb hby d2_7) rfl k) ?_
  show Go p e below _ (s₁.setTop (mkF m 8 #[.val (.long q1), .second, .val (.long q1), .second] [(.long (q1 ^^^ ((q1.toUInt64 >>> ((31 : Int32) &&& 0x3f).toInt64.toUInt64).toInt64)))]))
  refine Go.step (fun t k => XS.lloadN X0.here hx rfl (hb hby d2_8) rfl k) ?_
  show Go p e below _ (s₁.setTop (mkF m 9 #[.val (.long q1), .second, .val (.long q1), .second] [(.long q1), (.long (q1 ^^^ ((q1.toUInt64 >>> ((31 : Int32) &&& 0x3f).toInt64.toUInt64).toInt64)))]))
  refine Go.step (fun t k => XS.bipush X0.here hx rfl (hb hby d2_9)  k) ?_
  show Go p e below _ (s₁.setTop (mkF m 11 #[.val (.long q1), .second, .val (.long q1), .second] [(.int (62 : Int32)), (.long q1), (.long (q1 ^^^ ((q1.toUInt64 >>> ((31 : Int32) &&& 0x3f).toInt64.toUInt64).toInt64)))]))
  refine Go.step (fun t k => XS.lushr X0.here hx rfl (hb hby d2_11) rfl k) ?_
  show Go p e below _ (s₁.setTop (mkF m 12 #[.val (.long q1), .second, .val (.long q1), .second] [(.long ((q1.toUInt64 >>> ((62 : Int32) &&& 0x3f).toInt64.toUInt64).toInt64)), (.long (q1 ^^^ ((q1.toUInt64 >>> ((31 : Int32) &&& 0x3f).toInt64.toUInt64).toInt64)))]))
  refine Go.step (fun t k => XS.lxor X0.here hx rfl (hb hby d2_12) rfl k) ?_
  show Go p e below _ (s₁.setTop (mkF m 13 #[.val (.long q1), .second, .val (.long q1), .second] [(.long ((q1 ^^^ ((q1.toUInt64 >>> ((31 : Int32) &&& 0x3f).toInt64.toUInt64).toInt64)) ^^^ ((q1.toUInt64 >>> ((62 : Int32) &&& 0x3f).toInt64.toUInt64).toInt64)))]))
  obtain ⟨v2, hv2⟩ : ∃ z : Int64, z = ((q1 ^^^ ((q1.toUInt64 >>> ((31 : Int32) &&& 0x3f).toInt64.toUInt64).toInt64)) ^^^ ((q1.toUInt64 >>> ((62 : Int32) &&& 0x3f).toInt64.toUInt64).toInt64)) := ⟨_, rfl⟩
  rw [← hv2]
  show Go p e below _ (s₁.setTop (mkF m 13 #[.val (.long q1), .second, .val (.long q1), .second] [(.long v2)]))
  refine Go.step (fun t k => XS.lstoreN X0.here hx rfl (hb hby d2_13) rfl (l' := #[.val (.long q1), .second, .val (.long v2), .second]) rfl k) ?_
  show Go p e below _ (s₁.setTop (mkF m 14 #[.val (.long q1), .second, .val (.long v2), .second] []))
  refine Go.step (fun t k => XS.lloadN X0.here hx rfl (hb hby d2_14) rfl k) ?_
  show Go p e below _ (s₁.setTop (mkF m 15 #[.val (.long q1), .second, .val (.long v2), .second] [(.long v2)]))
  refine Go.step (X0.ldc2Long hx hown (mvT hZ (hw _ (List.mem_of_getElem? (i := 11) rfl))) (g := (mkF m 15 #[.val (.long q1), .second, .val (.long v2), .second] [(.long v2)])) rfl (hb hby d2_15)) ?_
  show Go p e below _ (s₁.setTop (mkF m 18 #[.val (.long q1), .second, .val (.long v2), .second] [(.long (-7723592293110705685 : Int64)), (.long v2)]))
  obtain ⟨_, _, ⟨T3, L3, k3, n3⟩, -, X3, ⟨Lc3, hQ3, l3, y3, z3⟩, st3⟩ := Jvm.LawKit.callS X0 hx (y := (⟨"com/example/arnero/arnero/HashSchemeStridePinLaw", "inverseOf", "(J)J"⟩ : MethodName)) hown (mvT hZ (hw _ (List.mem_of_getElem? (i := 12) rfl))) (mvT hZ (hw _ (List.mem_of_getElem? (i := 13) rfl))) (mvT hZ (hw _ (List.mem_of_getElem? (i := 9) rfl))) (mvT hZ (hw _ (List.mem_of_getElem? (i := 14) rfl))) (by decide) (backOf (W := 2) (rm3 l Z a0 hw [] (-7723592293110705685 : Int64) h0 n0 Z0) hZ (hw _ (List.mem_of_getElem? (i := 14) rfl)) (hw _ (List.mem_of_getElem? (i := 9) rfl)) (by decide) (by decide)) (g := (mkF m 18 #[.val (.long q1), .second, .val (.long v2), .second] [(.long (-7723592293110705685 : Int64)), (.long v2)])) rfl (by rw [hml]; rfl) (argsL := [(.long (-7723592293110705685 : Int64))]) (rest := [(.long v2)]) (lenOf pd_0 rfl) rfl (by show 2 * 0 + _ ≤ _; exact Nat.le_of_eq rfl) (hb hby d2_18) (fun _ _ => ⟨rfl, e0, (by decide : 0 + 0 ≤ _), (by decide : 0 + 0 ≤ _)⟩)
  dsimp only [Pt.U, Pt.locs, Pt.cells, Pt.slots] at X3 l3 y3 z3 st3 hQ3
  subst l3 y3 z3
  obtain ⟨rfl, N3q, e3⟩ := hQ3
  have N3 := Fr.app N0 N3q
  refine Go.step st3 ?_
  show Go p e below _ (T3.setTop (mkF m 21 #[.val (.long q1), .second, .val (.long v2), .second] [(.long (f3 (-7723592293110705685 : Int64))), (.long v2)]))
  refine Go.step (fun t k => XS.lmul X3.here hx rfl (hb hby d2_21) rfl k) ?_
  show Go p e below _ (T3.setTop (mkF m 22 #[.val (.long q1), .second, .val (.long v2), .second] [(.long (v2 * (f3 (-7723592293110705685 : Int64))))]))
  obtain ⟨v4, hv4⟩ : ∃ z : Int64, z = (v2 * (f3 (-7723592293110705685 : Int64))) := ⟨_, rfl⟩
  rw [← hv4]
  show Go p e below _ (T3.setTop (mkF m 22 #[.val (.long q1), .second, .val (.long v2), .second] [(.long v4)]))
  refine Go.step (fun t k => XS.lstoreN X3.here hx rfl (hb hby d2_22) rfl (l' := #[.val (.long q1), .second, .val (.long v4), .second]) rfl k) ?_
  show Go p e below _ (T3.setTop (mkF m 23 #[.val (.long q1), .second, .val (.long v4), .second] []))
  refine Go.step (fun t k => XS.lloadN X3.here hx rfl (hb hby d2_23) rfl k) ?_
  show Go p e below _ (T3.setTop (mkF m 24 #[.val (.long q1), .second, .val (.long v4), .second] [(.long v4)]))
  refine Go.step (fun t k => XS.lloadN X3.here hx rfl (hb hby d2_24) rfl k) ?_
  show Go p e below _ (T3.setTop (mkF m 25 #[.val (.long q1), .second, .val (.long v4), .second] [(.long v4), (.long v4)]))
  refine Go.step (fun t k => XS.bipush X3.here hx rfl (hb hby d2_25)  k) ?_
  show Go p e below _ (T3.setTop (mkF m 27 #[.val (.long q1), .second, .val (.long v4), .second] [(.int (27 : Int32)), (.long v4), (.long v4)]))
  refine Go.step (fun t k => XS.lushr X3.here hx rfl (hb hby d2_27) rfl k) ?_
  show Go p e below _ (T3.setTop (mkF m 28 #[.val (.long q1), .second, .val (.long v4), .second] [(.long ((v4.toUInt64 >>> ((27 : Int32) &&& 0x3f).toInt64.toUInt64).toInt64)), (.long v4)]))
  refine Go.step (fun t k => XS.lxor X3.here hx rfl (hb hby d2_28) rfl k) ?_
  show Go p e below _ (T3.setTop (mkF m 29 #[.val (.long q1), .second, .val (.long v4), .second] [(.long (v4 ^^^ ((v4.toUInt64 >>> ((27 : Int32) &&& 0x3f).toInt64.toUInt64).toInt64)))]))
  refine Go.step (fun t k => XS.lloadN X3.here hx rfl (hb hby d2_29) rfl k) ?_
  show Go p e below _ (T3.setTop (mkF m 30 #[.val (.long q1), .second, .val (.long v4), .second] [(.long v4), (.long (v4 ^^^ ((v4.toUInt64 >>> ((27 : Int32) &&& 0x3f).toInt64.toUInt64).toInt64)))]))
  refine Go.step (fun t k => XS.bipush X3.here hx rfl (hb hby d2_30)  k) ?_
  show Go p e below _ (T3.setTop (mkF m 32 #[.val (.long q1), .second, .val (.long v4), .second] [(.int (54 : Int32)), (.long v4), (.long (v4 ^^^ ((v4.toUInt64 >>> ((27 : Int32) &&& 0x3f).toInt64.toUInt64).toInt64)))]))
  refine Go.step (fun t k => XS.lushr X3.here hx rfl (hb hby d2_32) rfl k) ?_
  show Go p e below _ (T3.setTop (mkF m 33 #[.val (.long q1), .second, .val (.long v4), .second] [(.long ((v4.toUInt64 >>> ((54 : Int32) &&& 0x3f).toInt64.toUInt64).toInt64)), (.long (v4 ^^^ ((v4.toUInt64 >>> ((27 : Int32) &&& 0x3f).toInt64.toUInt64).toInt64)))]))
  refine Go.step (fun t k => XS.lxor X3.here hx rfl (hb hby d2_33) rfl k) ?_
  show Go p e below _ (T3.setTop (mkF m 34 #[.val (.long q1), .second, .val (.long v4), .second] [(.long ((v4 ^^^ ((v4.toUInt64 >>> ((27 : Int32) &&& 0x3f).toInt64.toUInt64).toInt64)) ^^^ ((v4.toUInt64 >>> ((54 : Int32) &&& 0x3f).toInt64.toUInt64).toInt64)))]))
  obtain ⟨v5, hv5⟩ : ∃ z : Int64, z = ((v4 ^^^ ((v4.toUInt64 >>> ((27 : Int32) &&& 0x3f).toInt64.toUInt64).toInt64)) ^^^ ((v4.toUInt64 >>> ((54 : Int32) &&& 0x3f).toInt64.toUInt64).toInt64)) := ⟨_, rfl⟩
  rw [← hv5]
  show Go p e below _ (T3.setTop (mkF m 34 #[.val (.long q1), .second, .val (.long v4), .second] [(.long v5)]))
  refine Go.step (fun t k => XS.lstoreN X3.here hx rfl (hb hby d2_34) rfl (l' := #[.val (.long q1), .second, .val (.long v5), .second]) rfl k) ?_
  show Go p e below _ (T3.setTop (mkF m 35 #[.val (.long q1), .second, .val (.long v5), .second] []))
  refine Go.step (fun t k => XS.lloadN X3.here hx rfl (hb hby d2_35) rfl k) ?_
  show Go p e below _ (T3.setTop (mkF m 36 #[.val (.long q1), .second, .val (.long v5), .second] [(.long v5)]))
  refine Go.step (X3.ldc2Long hx hown (mvT hZ (hw _ (List.mem_of_getElem? (i := 16) rfl))) (g := (mkF m 36 #[.val (.long q1), .second, .val (.long v5), .second] [(.long v5)])) rfl (hb hby d2_36)) ?_
  show Go p e below _ (T3.setTop (mkF m 39 #[.val (.long q1), .second, .val (.long v5), .second] [(.long (-4658895280553007687 : Int64)), (.long v5)]))
  obtain ⟨_, _, ⟨T6, L6, k6, n6⟩, -, X6, ⟨Lc6, hQ6, l6, y6, z6⟩, st6⟩ := Jvm.LawKit.callS X3 hx (y := (⟨"com/example/arnero/arnero/HashSchemeStridePinLaw", "inverseOf", "(J)J"⟩ : MethodName)) hown (mvT hZ (hw _ (List.mem_of_getElem? (i := 12) rfl))) (mvT hZ (hw _ (List.mem_of_getElem? (i := 13) rfl))) (mvT hZ (hw _ (List.mem_of_getElem? (i := 9) rfl))) (mvT hZ (hw _ (List.mem_of_getElem? (i := 14) rfl))) (by decide) (backOf (W := 2) (rm3 l Z a0 hw [] (-4658895280553007687 : Int64) h0 n0 Z0) hZ (hw _ (List.mem_of_getElem? (i := 14) rfl)) (hw _ (List.mem_of_getElem? (i := 9) rfl)) (by decide) (by decide)) (g := (mkF m 39 #[.val (.long q1), .second, .val (.long v5), .second] [(.long (-4658895280553007687 : Int64)), (.long v5)])) rfl (by rw [hml]; rfl) (argsL := [(.long (-4658895280553007687 : Int64))]) (rest := [(.long v5)]) (lenOf pd_0 rfl) rfl (by show 2 * 0 + _ ≤ _; exact Nat.le_of_eq rfl) (hb hby d2_39) (fun _ _ => ⟨rfl, e3, (by decide : 0 + 0 ≤ _), (by decide : 0 + 0 ≤ _)⟩)
  dsimp only [Pt.U, Pt.locs, Pt.cells, Pt.slots] at X6 l6 y6 z6 st6 hQ6
  subst l6 y6 z6
  obtain ⟨rfl, N6q, e6⟩ := hQ6
  have N6 := Fr.app N3 N6q
  refine Go.step st6 ?_
  show Go p e below _ (T6.setTop (mkF m 42 #[.val (.long q1), .second, .val (.long v5), .second] [(.long (f3 (-4658895280553007687 : Int64))), (.long v5)]))
  refine Go.step (fun t k => XS.lmul X6.here hx rfl (hb hby d2_42) rfl k) ?_
  show Go p e below _ (T6.setTop (mkF m 43 #[.val (.long q1), .second, .val (.long v5), .second] [(.long (v5 * (f3 (-4658895280553007687 : Int64))))]))
  obtain ⟨v7, hv7⟩ : ∃ z : Int64, z = (v5 * (f3 (-4658895280553007687 : Int64))) := ⟨_, rfl⟩
  rw [← hv7]
  show Go p e below _ (T6.setTop (mkF m 43 #[.val (.long q1), .second, .val (.long v5), .second] [(.long v7)]))
  refine Go.step (fun t k => XS.lstoreN X6.here hx rfl (hb hby d2_43) rfl (l' := #[.val (.long q1), .second, .val (.long v7), .second]) rfl k) ?_
  show Go p e below _ (T6.setTop (mkF m 44 #[.val (.long q1), .second, .val (.long v7), .second] []))
  refine Go.step (fun t k => XS.lloadN X6.here hx rfl (hb hby d2_44) rfl k) ?_
  show Go p e below _ (T6.setTop (mkF m 45 #[.val (.long q1), .second, .val (.long v7), .second] [(.long v7)]))
  refine Go.step (fun t k => XS.lloadN X6.here hx rfl (hb hby d2_45) rfl k) ?_
  show Go p e below _ (T6.setTop (mkF m 46 #[.val (.long q1), .second, .val (.long v7), .second] [(.long v7), (.long v7)]))
  refine Go.step (fun t k => XS.bipush X6.here hx rfl (hb hby d2_46)  k) ?_
  show Go p e below _ (T6.setTop (mkF m 48 #[.val (.long q1), .second, .val (.long v7), .second] [(.int (30 : Int32)), (.long v7), (.long v7)]))
  refine Go.step (fun t k => XS.lushr X6.here hx rfl (hb hby d2_48) rfl k) ?_
  show Go p e below _ (T6.setTop (mkF m 49 #[.val (.long q1), .second, .val (.long v7), .second] [(.long ((v7.toUInt64 >>> ((30 : Int32) &&& 0x3f).toInt64.toUInt64).toInt64)), (.long v7)]))
  refine Go.step (fun t k => XS.lxor X6.here hx rfl (hb hby d2_49) rfl k) ?_
  show Go p e below _ (T6.setTop (mkF m 50 #[.val (.long q1), .second, .val (.long v7), .second] [(.long (v7 ^^^ ((v7.toUInt64 >>> ((30 : Int32) &&& 0x3f).toInt64.toUInt64).toInt64)))]))
  refine Go.step (fun t k => XS.lloadN X6.here hx rfl (hb hby d2_50) rfl k) ?_
  show Go p e below _ (T6.setTop (mkF m 51 #[.val (.long q1), .second, .val (.long v7), .second] [(.long v7), (.long (v7 ^^^ ((v7.toUInt64 >>> ((30 : Int32) &&& 0x3f).toInt64.toUInt64).toInt64)))]))
  refine Go.step (fun t k => XS.bipush X6.here hx rfl (hb hby d2_51)  k) ?_
  show Go p e below _ (T6.setTop (mkF m 53 #[.val (.long q1), .second, .val (.long v7), .second] [(.int (60 : Int32)), (.long v7), (.long (v7 ^^^ ((v7.toUInt64 >>> ((30 : Int32) &&& 0x3f).toInt64.toUInt64).toInt64)))]))
  refine Go.step (fun t k => XS.lushr X6.here hx rfl (hb hby d2_53) rfl k) ?_
  show Go p e below _ (T6.setTop (mkF m 54 #[.val (.long q1), .second, .val (.long v7), .second] [(.long ((v7.toUInt64 >>> ((60 : Int32) &&& 0x3f).toInt64.toUInt64).toInt64)), (.long (v7 ^^^ ((v7.toUInt64 >>> ((30 : Int32) &&& 0x3f).toInt64.toUInt64).toInt64)))]))
  refine Go.step (fun t k => XS.lxor X6.here hx rfl (hb hby d2_54) rfl k) ?_
  show Go p e below _ (T6.setTop (mkF m 55 #[.val (.long q1), .second, .val (.long v7), .second] [(.long ((v7 ^^^ ((v7.toUInt64 >>> ((30 : Int32) &&& 0x3f).toInt64.toUInt64).toInt64)) ^^^ ((v7.toUInt64 >>> ((60 : Int32) &&& 0x3f).toInt64.toUInt64).toInt64)))]))
  obtain ⟨v8, hv8⟩ : ∃ z : Int64, z = ((v7 ^^^ ((v7.toUInt64 >>> ((30 : Int32) &&& 0x3f).toInt64.toUInt64).toInt64)) ^^^ ((v7.toUInt64 >>> ((60 : Int32) &&& 0x3f).toInt64.toUInt64).toInt64)) := ⟨_, rfl⟩
  rw [← hv8]
  show Go p e below _ (T6.setTop (mkF m 55 #[.val (.long q1), .second, .val (.long v7), .second] [(.long v8)]))
  refine Go.step (fun t k => XS.lstoreN X6.here hx rfl (hb hby d2_55) rfl (l' := #[.val (.long q1), .second, .val (.long v8), .second]) rfl k) ?_
  show Go p e below _ (T6.setTop (mkF m 56 #[.val (.long q1), .second, .val (.long v8), .second] []))
  refine Go.step (fun t k => XS.lloadN X6.here hx rfl (hb hby d2_56) rfl k) ?_
  show Go p e below _ (T6.setTop (mkF m 57 #[.val (.long q1), .second, .val (.long v8), .second] [(.long v8)]))
  refine Go.step (X6.ldc2Long hx hown (mvT hZ (hw _ (List.mem_of_getElem? (i := 17) rfl))) (g := (mkF m 57 #[.val (.long q1), .second, .val (.long v8), .second] [(.long v8)])) rfl (hb hby d2_57)) ?_
  show Go p e below _ (T6.setTop (mkF m 60 #[.val (.long q1), .second, .val (.long v8), .second] [(.long (-7046029254386353131 : Int64)), (.long v8)]))
  refine Go.step (fun t k => XS.lsub X6.here hx rfl (hb hby d2_60) rfl k) ?_
  show Go p e below _ (T6.setTop (mkF m 61 #[.val (.long q1), .second, .val (.long v8), .second] [(.long (v8 - (-7046029254386353131 : Int64)))]))
  subst hv8
  subst hv7
  subst hv5
  subst hv4
  subst hv2
  exact retGJ X6 hx Bd.notSynchronized Bd.returns (hb hby d2_61) ⟨by first | rfl | (simp only [f2]; done) | (simp [f2]; done), N6, e6⟩ (by decide) (by decide)
theorem ef_0 (m : MethodId) (q1 : Int64) (q2 : Int64) : entryFrame m #[(.long q1), (.long q2)] maxLocals = mkF m 0 #[.val (.long q1), .second, .val (.long q2), .second, .unset, .unset] [] := by first | (simp [entryFrame, mkF, argsToLocals, Value.category, maxLocals]; done) | rfl
def f0 (q1 : Int64) (q2 : Int64) : Int32 := (if (if (f2 (f1 q1)) = q1 then (1 : Int32) else (0 : Int32)) = (0 : Int32) then (0 : Int32) else (if (if (f1 (f2 q2)) = q2 then (1 : Int32) else (0 : Int32)) = (0 : Int32) then (0 : Int32) else (1 : Int32)))
set_option maxRecDepth 65536 in
set_option maxHeartbeats 40000000 in
theorem rm0 (l : Launch) (Z : State) (a0 : Array Value) (hw : ∀ d ∈ tables_1, d.before a0 Z = true) (ws : List Jvm.Cond) (q1 : Int64) (q2 : Int64) (h0 : Heap) (n0 : Nat) (Z0 : n0 ≤ h0.size) :
    MetFree l x (head1 (Jvm.Cond.code x code maxLocals ret :: ws) room_1) (fun a U => a = #[(.long q1), (.long q2)] ∧ Z.Warmed39 U.vm ∧ U.heap = h0) (fun _ _ _ _ _ => True) (fun _ U o U' => ∃ v L, o = .returned v ∧ QP (.int (f0 q1 q2)) h0 n0 v U'.heap L ∧ FrameEnd U o U' L room_1.cells room_1.slots) := by
  refine MetFree.of_bodySF (plainFor_of_name pn_1) hisR ?_
  intro p e s m args below meth c s₁ Bd hml0 hP hK
  obtain ⟨rfl, hZ, hh⟩ := hP
  have hx := Bd.exec
  have hby := Bd.bytes
  have hml : c.maxLocals = 6 := hml0
  have hown : s.vm.findClass "com/example/arnero/arnero/HashSchemeStridePinLaw" = some m.cls := findClass_of_methodNamed Bd.named
  have hnm := (name_of_methodNamed Bd.named Bd.method).1
  have X0 : Stand p l e room_1 s m #[(.long q1), (.long q2)] below meth c s₁ [] 0 0 := Stand.of_body Bd
  have e0 : s₁.heap = h0 := by rw [← hh, Bd.state]; rfl
  have N0 := Fr.nil n0
  refine Go.done (Go.step (fun t k => castTop (ef_0 m q1 q2) k) ?_)
  show Go p e below _ (s₁.setTop (mkF m 0 #[.val (.long q1), .second, .val (.long q2), .second, .unset, .unset] []))
  refine Go.step (fun t k => XS.lloadN X0.here hx rfl (hb hby at_0) rfl k) ?_
  show Go p e below _ (s₁.setTop (mkF m 1 #[.val (.long q1), .second, .val (.long q2), .second, .unset, .unset] [(.long q1)]))
  obtain ⟨_, _, ⟨T3, L3, k3, n3⟩, -, X3, ⟨Lc3, hQ3, l3, y3, z3⟩, st3⟩ := Jvm.LawKit.callS X0 hx (y := (⟨"com/example/arnero/arnero/HashScheme", "stride", "(J)J"⟩ : MethodName)) hown (mvT hZ (hw _ (List.mem_of_getElem? (i := 0) rfl))) (mvT hZ (hw _ (List.mem_of_getElem? (i := 1) rfl))) (mvT hZ (hw _ (List.mem_of_getElem? (i := 2) rfl))) (mvT hZ (hw _ (List.mem_of_getElem? (i := 3) rfl))) (by decide) (backOf (W := 0) (rm1 l Z a0 hw [] q1 h0 n0 Z0) hZ (hw _ (List.mem_of_getElem? (i := 3) rfl)) (hw _ (List.mem_of_getElem? (i := 2) rfl)) (by decide) (by decide)) (g := (mkF m 1 #[.val (.long q1), .second, .val (.long q2), .second, .unset, .unset] [(.long q1)])) rfl (by rw [hml]; rfl) (argsL := [(.long q1)]) (rest := []) (lenOf pd_0 rfl) rfl (by show 2 * 0 + _ ≤ _; exact Nat.le_of_eq rfl) (hb hby at_1) (fun _ _ => ⟨rfl, e0, (by decide : 0 + 0 ≤ _), (by decide : 0 + 0 ≤ _)⟩)
  dsimp only [Pt.U, Pt.locs, Pt.cells, Pt.slots] at X3 l3 y3 z3 st3 hQ3
  subst l3 y3 z3
  obtain ⟨rfl, N3q, e3⟩ := hQ3
  have N3 := Fr.app N0 N3q
  refine Go.step st3 ?_
  show Go p e below _ (T3.setTop (mkF m 4 #[.val (.long q1), .second, .val (.long q2), .second, .unset, .unset] [(.long (f1 q1))]))
  obtain ⟨_, _, ⟨T4, L4, k4, n4⟩, -, X4, ⟨Lc4, hQ4, l4, y4, z4⟩, st4⟩ := Jvm.LawKit.callS X3 hx (y := (⟨"com/example/arnero/arnero/HashSchemeStridePinLaw", "unstride", "(J)J"⟩ : MethodName)) hown (mvT hZ (hw _ (List.mem_of_getElem? (i := 7) rfl))) (mvT hZ (hw _ (List.mem_of_getElem? (i := 8) rfl))) (mvT hZ (hw _ (List.mem_of_getElem? (i := 9) rfl))) (mvT hZ (hw _ (List.mem_of_getElem? (i := 10) rfl))) (by decide) (backOf (W := 0) (rm2 l Z a0 hw [] (f1 q1) h0 n0 Z0) hZ (hw _ (List.mem_of_getElem? (i := 10) rfl)) (hw _ (List.mem_of_getElem? (i := 9) rfl)) (by decide) (by decide)) (g := (mkF m 4 #[.val (.long q1), .second, .val (.long q2), .second, .unset, .unset] [(.long (f1 q1))])) rfl (by rw [hml]; rfl) (argsL := [(.long (f1 q1))]) (rest := []) (lenOf pd_0 rfl) rfl (by show 2 * 0 + _ ≤ _; exact Nat.le_of_eq rfl) (hb hby at_4) (fun _ _ => ⟨rfl, e3, (by decide : 0 + 0 ≤ _), (by decide : 0 + 0 ≤ _)⟩)
  dsimp only [Pt.U, Pt.locs, Pt.cells, Pt.slots] at X4 l4 y4 z4 st4 hQ4
  subst l4 y4 z4
  obtain ⟨rfl, N4q, e4⟩ := hQ4
  have N4 := Fr.app N3 N4q
  refine Go.step st4 ?_
  show Go p e below _ (T4.setTop (mkF m 7 #[.val (.long q1), .second, .val (.long q2), .second, .unset, .unset] [(.long (f2 (f1 q1)))]))
  refine Go.step (fun t k => XS.lloadN X4.here hx rfl (hb hby at_7) rfl k) ?_
  show Go p e below _ (T4.setTop (mkF m 8 #[.val (.long q1), .second, .val (.long q2), .second, .unset, .unset] [(.long q1), (.long (f2 (f1 q1)))]))
  refine Go.step (fun t k => XS.lcmp X4.here hx rfl (hb hby at_8) rfl k) ?_
  show Go p e below _ (T4.setTop (mkF m 9 #[.val (.long q1), .second, .val (.long q2), .second, .unset, .unset] [(.int (lcmpW (f2 (f1 q1)) q1))]))
  obtain ⟨v6, hv6⟩ : ∃ z : Int32, z = (if (f2 (f1 q1)) = q1 then (1 : Int32) else (0 : Int32)) := ⟨_, rfl⟩
  have J9 : Go p e below (AtF p l e room_1 s m #[(.long q1), (.long q2)] below meth c n0 0 0 h0 (mkF m 17 #[.val (.long q1), .second, .val (.long q2), .second, .unset, .unset] [(.int v6)])) (T4.setTop (mkF m 9 #[.val (.long q1), .second, .val (.long q2), .second, .unset, .unset] [(.int (lcmpW (f2 (f1 q1)) q1))])) := by
    by_cases hc5 : (f2 (f1 q1)) = q1
    · refine Go.step (fun t k => XS.ifNo X4.here hx rfl (hb hby at_9) rfl ((if0 _ _).trans (teq ((lw_eq _ _).mpr hc5)).2) k) ?_
      show Go p e below _ (T4.setTop (mkF m 12 #[.val (.long q1), .second, .val (.long q2), .second, .unset, .unset] []))
      refine Go.step (fun t k => XS.iconst X4.here hx rfl (hb hby at_12)  k) ?_
      show Go p e below _ (T4.setTop (mkF m 13 #[.val (.long q1), .second, .val (.long q2), .second, .unset, .unset] [(.int (1 : Int32))]))
      refine Go.step (fun t k => XS.goto X4.here hx rfl (pc0 := 13) (pc' := 17) rfl (hb hby at_13) (by decide) (by decide) k) ?_
      show Go p e below _ (T4.setTop (mkF m 17 #[.val (.long q1), .second, .val (.long q2), .second, .unset, .unset] [(.int (1 : Int32))]))
      exact Go.here ⟨_, _, by simp only [hv6, if_pos hc5], X4, N4, e4⟩
    · refine Go.step (fun t k => XS.ifYes X4.here hx rfl (pc0 := 9) (pc' := 16) rfl (hb hby at_9) rfl ((if0 _ _).trans (feq (fun q => hc5 ((lw_eq _ _).mp q))).2) (by decide) (by decide) k) ?_
      show Go p e below _ (T4.setTop (mkF m 16 #[.val (.long q1), .second, .val (.long q2), .second, .unset, .unset] []))
      refine Go.step (fun t k => XS.iconst X4.here hx rfl (hb hby at_16)  k) ?_
      show Go p e below _ (T4.setTop (mkF m 17 #[.val (.long q1), .second, .val (.long q2), .second, .unset, .unset] [(.int (0 : Int32))]))
      exact Go.here ⟨_, _, by simp only [hv6, if_neg hc5], X4, N4, e4⟩
  obtain ⟨_, st7, T7, Lj7, rfl, X7, N7, e7⟩ := J9
  refine Go.trans st7 ?_
  show Go p e below _ (T7.setTop (mkF m 17 #[.val (.long q1), .second, .val (.long q2), .second, .unset, .unset] [(.int v6)]))
  refine Go.step (fun t k => XS.istore X7.here hx rfl (hb hby at_17) rfl (l' := #[.val (.long q1), .second, .val (.long q2), .second, .val (.int v6), .unset]) rfl k) ?_
  show Go p e below _ (T7.setTop (mkF m 19 #[.val (.long q1), .second, .val (.long q2), .second, .val (.int v6), .unset] []))
  refine Go.step (fun t k => XS.lloadN X7.here hx rfl (hb hby at_19) rfl k) ?_
  show Go p e below _ (T7.setTop (mkF m 20 #[.val (.long q1), .second, .val (.long q2), .second, .val (.int v6), .unset] [(.long q2)]))
  obtain ⟨_, _, ⟨T8, L8, k8, n8⟩, -, X8, ⟨Lc8, hQ8, l8, y8, z8⟩, st8⟩ := Jvm.LawKit.callS X7 hx (y := (⟨"com/example/arnero/arnero/HashSchemeStridePinLaw", "unstride", "(J)J"⟩ : MethodName)) hown (mvT hZ (hw _ (List.mem_of_getElem? (i := 7) rfl))) (mvT hZ (hw _ (List.mem_of_getElem? (i := 8) rfl))) (mvT hZ (hw _ (List.mem_of_getElem? (i := 9) rfl))) (mvT hZ (hw _ (List.mem_of_getElem? (i := 10) rfl))) (by decide) (backOf (W := 0) (rm2 l Z a0 hw [] q2 h0 n0 Z0) hZ (hw _ (List.mem_of_getElem? (i := 10) rfl)) (hw _ (List.mem_of_getElem? (i := 9) rfl)) (by decide) (by decide)) (g := (mkF m 20 #[.val (.long q1), .second, .val (.long q2), .second, .val (.int v6), .unset] [(.long q2)])) rfl (by rw [hml]; rfl) (argsL := [(.long q2)]) (rest := []) (lenOf pd_0 rfl) rfl (by show 2 * 0 + _ ≤ _; exact Nat.le_of_eq rfl) (hb hby at_20) (fun _ _ => ⟨rfl, e7, (by decide : 0 + 0 ≤ _), (by decide : 0 + 0 ≤ _)⟩)
  dsimp only [Pt.U, Pt.locs, Pt.cells, Pt.slots] at X8 l8 y8 z8 st8 hQ8
  subst l8 y8 z8
  obtain ⟨rfl, N8q, e8⟩ := hQ8
  have N8 := Fr.app N7 N8q
  refine Go.step st8 ?_
  show Go p e below _ (T8.setTop (mkF m 23 #[.val (.long q1), .second, .val (.long q2), .second, .val (.int v6), .unset] [(.long (f2 q2))]))
  obtain ⟨_, _, ⟨T9, L9, k9, n9⟩, -, X9, ⟨Lc9, hQ9, l9, y9, z9⟩, st9⟩ := Jvm.LawKit.callS X8 hx (y := (⟨"com/example/arnero/arnero/HashScheme", "stride", "(J)J"⟩ : MethodName)) hown (mvT hZ (hw _ (List.mem_of_getElem? (i := 0) rfl))) (mvT hZ (hw _ (List.mem_of_getElem? (i := 1) rfl))) (mvT hZ (hw _ (List.mem_of_getElem? (i := 2) rfl))) (mvT hZ (hw _ (List.mem_of_getElem? (i := 3) rfl))) (by decide) (backOf (W := 0) (rm1 l Z a0 hw [] (f2 q2) h0 n0 Z0) hZ (hw _ (List.mem_of_getElem? (i := 3) rfl)) (hw _ (List.mem_of_getElem? (i := 2) rfl)) (by decide) (by decide)) (g := (mkF m 23 #[.val (.long q1), .second, .val (.long q2), .second, .val (.int v6), .unset] [(.long (f2 q2))])) rfl (by rw [hml]; rfl) (argsL := [(.long (f2 q2))]) (rest := []) (lenOf pd_0 rfl) rfl (by show 2 * 0 + _ ≤ _; exact Nat.le_of_eq rfl) (hb hby at_23) (fun _ _ => ⟨rfl, e8, (by decide : 0 + 0 ≤ _), (by decide : 0 + 0 ≤ _)⟩)
  dsimp only [Pt.U, Pt.locs, Pt.cells, Pt.slots] at X9 l9 y9 z9 st9 hQ9
  subst l9 y9 z9
  obtain ⟨rfl, N9q, e9⟩ := hQ9
  have N9 := Fr.app N8 N9q
  refine Go.step st9 ?_
  show Go p e below _ (T9.setTop (mkF m 26 #[.val (.long q1), .second, .val (.long q2), .second, .val (.int v6), .unset] [(.long (f1 (f2 q2)))]))
  refine Go.step (fun t k => XS.lloadN X9.here hx rfl (hb hby at_26) rfl k) ?_
  show Go p e below _ (T9.setTop (mkF m 27 #[.val (.long q1), .second, .val (.long q2), .second, .val (.int v6), .unset] [(.long q2), (.long (f1 (f2 q2)))]))
  refine Go.step (fun t k => XS.lcmp X9.here hx rfl (hb hby at_27) rfl k) ?_
  show Go p e below _ (T9.setTop (mkF m 28 #[.val (.long q1), .second, .val (.long q2), .second, .val (.int v6), .unset] [(.int (lcmpW (f1 (f2 q2)) q2))]))
  obtain ⟨v11, hv11⟩ : ∃ z : Int32, z = (if (f1 (f2 q2)) = q2 then (1 : Int32) else (0 : Int32)) := ⟨_, rfl⟩
  have J28 : Go p e below (AtF p l e room_1 s m #[(.long q1), (.long q2)] below meth c n0 0 0 h0 (mkF m 36 #[.val (.long q1), .second, .val (.long q2), .second, .val (.int v6), .unset] [(.int v11)])) (T9.setTop (mkF m 28 #[.val (.long q1), .second, .val (.long q2), .second, .val (.int v6), .unset] [(.int (lcmpW (f1 (f2 q2)) q2))])) := by
    by_cases hc10 : (f1 (f2 q2)) = q2
    · refine Go.step (fun t k => XS.ifNo X9.here hx rfl (hb hby at_28) rfl ((if0 _ _).trans (teq ((lw_eq _ _).mpr hc10)).2) k) ?_
      show Go p e below _ (T9.setTop (mkF m 31 #[.val (.long q1), .second, .val (.long q2), .second, .val (.int v6), .unset] []))
      refine Go.step (fun t k => XS.iconst X9.here hx rfl (hb hby at_31)  k) ?_
      show Go p e below _ (T9.setTop (mkF m 32 #[.val (.long q1), .second, .val (.long q2), .second, .val (.int v6), .unset] [(.int (1 : Int32))]))
      refine Go.step (fun t k => XS.goto X9.here hx rfl (pc0 := 32) (pc' := 36) rfl (hb hby at_32) (by decide) (by decide) k) ?_
      show Go p e below _ (T9.setTop (mkF m 36 #[.val (.long q1), .second, .val (.long q2), .second, .val (.int v6), .unset] [(.int (1 : Int32))]))
      exact Go.here ⟨_, _, by simp only [hv11, if_pos hc10], X9, N9, e9⟩
    · refine Go.step (fun t k => XS.ifYes X9.here hx rfl (pc0 := 28) (pc' := 35) rfl (hb hby at_28) rfl ((if0 _ _).trans (feq (fun q => hc10 ((lw_eq _ _).mp q))).2) (by decide) (by decide) k) ?_
      show Go p e below _ (T9.setTop (mkF m 35 #[.val (.long q1), .second, .val (.long q2), .second, .val (.int v6), .unset] []))
      refine Go.step (fun t k => XS.iconst X9.here hx rfl (hb hby at_35)  k) ?_
      show Go p e below _ (T9.setTop (mkF m 36 #[.val (.long q1), .second, .val (.long q2), .second, .val (.int v6), .unset] [(.int (0 : Int32))]))
      exact Go.here ⟨_, _, by simp only [hv11, if_neg hc10], X9, N9, e9⟩
  obtain ⟨_, st12, T12, Lj12, rfl, X12, N12, e12⟩ := J28
  refine Go.trans st12 ?_
  show Go p e below _ (T12.setTop (mkF m 36 #[.val (.long q1), .second, .val (.long q2), .second, .val (.int v6), .unset] [(.int v11)]))
  refine Go.step (fun t k => XS.istore X12.here hx rfl (hb hby at_36) rfl (l' := #[.val (.long q1), .second, .val (.long q2), .second, .val (.int v6), .val (.int v11)]) rfl k) ?_
  show Go p e below _ (T12.setTop (mkF m 38 #[.val (.long q1), .second, .val (.long q2), .second, .val (.int v6), .val (.int v11)] []))
  refine Go.step (fun t k => XS.iload X12.here hx rfl (hb hby at_38) rfl k) ?_
  show Go p e below _ (T12.setTop (mkF m 40 #[.val (.long q1), .second, .val (.long q2), .second, .val (.int v6), .val (.int v11)] [(.int v6)]))
  by_cases hc13 : v6 = (0 : Int32)
  · refine Go.step (fun t k => XS.ifYes X12.here hx rfl (pc0 := 40) (pc' := 52) rfl (hb hby at_40) rfl ((if0 _ _).trans (teq hc13).1) (by decide) (by decide) k) ?_
    show Go p e below _ (T12.setTop (mkF m 52 #[.val (.long q1), .second, .val (.long q2), .second, .val (.int v6), .val (.int v11)] []))
    refine Go.step (fun t k => XS.iconst X12.here hx rfl (hb hby at_52)  k) ?_
    show Go p e below _ (T12.setTop (mkF m 53 #[.val (.long q1), .second, .val (.long q2), .second, .val (.int v6), .val (.int v11)] [(.int (0 : Int32))]))
    subst hv11
    subst hv6
    exact retGN X12 hx Bd.notSynchronized Bd.returns (t := .boolean) (by simp) (z' := (0 : Int32)) rfl (hb hby at_53) ⟨by first | (simp only [f0, if_pos hc13]; done) | rfl | (simp [f0, if_pos hc13]; done), N12, e12⟩ (by decide) (by decide)
  · refine Go.step (fun t k => XS.ifNo X12.here hx rfl (hb hby at_40) rfl ((if0 _ _).trans (feq hc13).1) k) ?_
    show Go p e below _ (T12.setTop (mkF m 43 #[.val (.long q1), .second, .val (.long q2), .second, .val (.int v6), .val (.int v11)] []))
    refine Go.step (fun t k => XS.iload X12.here hx rfl (hb hby at_43) rfl k) ?_
    show Go p e below _ (T12.setTop (mkF m 45 #[.val (.long q1), .second, .val (.long q2), .second, .val (.int v6), .val (.int v11)] [(.int v11)]))
    by_cases hc14 : v11 = (0 : Int32)
    · refine Go.step (fun t k => XS.ifYes X12.here hx rfl (pc0 := 45) (pc' := 52) rfl (hb hby at_45) rfl ((if0 _ _).trans (teq hc14).1) (by decide) (by decide) k) ?_
      show Go p e below _ (T12.setTop (mkF m 52 #[.val (.long q1), .second, .val (.long q2), .second, .val (.int v6), .val (.int v11)] []))
      refine Go.step (fun t k => XS.iconst X12.here hx rfl (hb hby at_52)  k) ?_
      show Go p e below _ (T12.setTop (mkF m 53 #[.val (.long q1), .second, .val (.long q2), .second, .val (.int v6), .val (.int v11)] [(.int (0 : Int32))]))
      subst hv11
      subst hv6
      exact retGN X12 hx Bd.notSynchronized Bd.returns (t := .boolean) (by simp) (z' := (0 : Int32)) rfl (hb hby at_53) ⟨by first | (simp only [f0, if_neg hc13, if_pos hc14]; done) | rfl | (simp [f0, if_neg hc13, if_pos hc14]; done), N12, e12⟩ (by decide) (by decide)
    · refine Go.step (fun t k => XS.ifNo X12.here hx rfl (hb hby at_45) rfl ((if0 _ _).trans (feq hc14).1) k) ?_
      show Go p e below _ (T12.setTop (mkF m 48 #[.val (.long q1), .second, .val (.long q2), .second, .val (.int v6), .val (.int v11)] []))
      refine Go.step (fun t k => XS.iconst X12.here hx rfl (hb hby at_48)  k) ?_
      show Go p e below _ (T12.setTop (mkF m 49 #[.val (.long q1), .second, .val (.long q2), .second, .val (.int v6), .val (.int v11)] [(.int (1 : Int32))]))
      refine Go.step (fun t k => XS.goto X12.here hx rfl (pc0 := 49) (pc' := 53) rfl (hb hby at_49) (by decide) (by decide) k) ?_
      show Go p e below _ (T12.setTop (mkF m 53 #[.val (.long q1), .second, .val (.long q2), .second, .val (.int v6), .val (.int v11)] [(.int (1 : Int32))]))
      subst hv11
      subst hv6
      exact retGN X12 hx Bd.notSynchronized Bd.returns (t := .boolean) (by simp) (z' := (1 : Int32)) rfl (hb hby at_53) ⟨by first | (simp only [f0, if_neg hc13, if_neg hc14]; done) | rfl | (simp [f0, if_neg hc13, if_neg hc14]; done), N12, e12⟩ (by decide) (by decide)
theorem bv_a (x : BitVec 64) (s : Nat) (hs : 64 ≤ 3*s) : ((x ^^^ (x >>> s)) ^^^ ((x ^^^ (x >>> s)) >>> s)) ^^^ ((x ^^^ (x >>> s)) >>> (s + s)) = x := by
  apply BitVec.eq_of_getLsbD_eq
  intro i hi
  simp only [BitVec.getLsbD_xor, BitVec.getLsbD_ushiftRight]
  have e : x.getLsbD (s + (s + s + i)) = false := BitVec.getLsbD_of_ge _ _ (by omega)
  rw [show s + s + i = s + (s + i) by omega] at e ⊢
  rw [e]
  cases x.getLsbD i <;> cases x.getLsbD (s + i) <;> cases x.getLsbD (s + (s + i)) <;> rfl
theorem bv_b (x : BitVec 64) (s : Nat) (hs : 64 ≤ 3*s) : (x ^^^ (x >>> s) ^^^ (x >>> (s+s))) ^^^ ((x ^^^ (x >>> s) ^^^ (x >>> (s + s))) >>> s) = x := by
  apply BitVec.eq_of_getLsbD_eq
  intro i hi
  simp only [BitVec.getLsbD_xor, BitVec.getLsbD_ushiftRight]
  have e : x.getLsbD (s + s + (s + i)) = false := BitVec.getLsbD_of_ge _ _ (by omega)
  rw [show s + s + (s + i) = s + (s + (s + i)) by omega] at e ⊢
  rw [show s + s + i = s + (s + i) by omega, e]
  cases x.getLsbD i <;> cases x.getLsbD (s + i) <;> cases x.getLsbD (s + (s + i)) <;> rfl
def shr (k : Int32) (x : Int64) : Int64 := ((x.toUInt64 >>> (k &&& 0x3f).toInt64.toUInt64).toInt64)
theorem shr_bv (x : Int64) (k : Int32) (n : Nat) (hk : (UInt64.mod (k &&& 0x3f).toInt64.toUInt64 64).toBitVec.toNat = n) : (shr k x).toBitVec = x.toBitVec >>> n := by
  subst hk
  rfl
/-- one xor-shift, and what undoes it -/
def fw (k : Int32) (x : Int64) : Int64 := x ^^^ shr k x
def bk (k k2 : Int32) (x : Int64) : Int64 := (x ^^^ shr k x) ^^^ shr k2 x
theorem bk_fw (k k2 : Int32) (n : Nat) (hk : (UInt64.mod (k &&& 0x3f).toInt64.toUInt64 64).toBitVec.toNat = n) (hk2 : (UInt64.mod (k2 &&& 0x3f).toInt64.toUInt64 64).toBitVec.toNat = n + n) (hn : 64 ≤ 3 * n) (x : Int64) : bk k k2 (fw k x) = x := by
  apply Int64.toBitVec_inj.mp
  simp only [bk, fw, Int64.toBitVec_xor, shr_bv _ k n hk, shr_bv _ k2 (n + n) hk2]
  exact bv_a _ _ hn
theorem fw_bk (k k2 : Int32) (n : Nat) (hk : (UInt64.mod (k &&& 0x3f).toInt64.toUInt64 64).toBitVec.toNat = n) (hk2 : (UInt64.mod (k2 &&& 0x3f).toInt64.toUInt64 64).toBitVec.toNat = n + n) (hn : 64 ≤ 3 * n) (x : Int64) : fw k (bk k k2 x) = x := by
  apply Int64.toBitVec_inj.mp
  simp only [bk, fw, Int64.toBitVec_xor, shr_bv _ k n hk, shr_bv _ k2 (n + n) hk2]
  exact bv_b _ _ hn
theorem mul_back (x m i : Int64) (h : m * i = 1) : x * m * i = x := by rw [Int64.mul_assoc, h, Int64.mul_one]

theorem f1_eq (x : Int64) : f1 x = fw 31 (fw 27 (fw 30 (x + (-7046029254386353131 : Int64)) * (-4658895280553007687 : Int64)) * (-7723592293110705685 : Int64)) := rfl
theorem f2_eq (x : Int64) : f2 x = bk 30 60 (bk 27 54 (bk 31 62 x * f3 (-7723592293110705685 : Int64)) * f3 (-4658895280553007687 : Int64)) - (-7046029254386353131 : Int64) := rfl
theorem i1 : (-4658895280553007687 : Int64) * f3 (-4658895280553007687 : Int64) = 1 := by decide +kernel
theorem i2 : (-7723592293110705685 : Int64) * f3 (-7723592293110705685 : Int64) = 1 := by decide +kernel
theorem i1' : f3 (-4658895280553007687 : Int64) * (-4658895280553007687 : Int64) = 1 := by decide +kernel
theorem i2' : f3 (-7723592293110705685 : Int64) * (-7723592293110705685 : Int64) = 1 := by decide +kernel
theorem forth (x : Int64) : f2 (f1 x) = x := by
  rw [f2_eq, f1_eq, bk_fw 31 62 31 (by decide) (by decide) (by decide), mul_back _ _ _ i2, bk_fw 27 54 27 (by decide) (by decide) (by decide), mul_back _ _ _ i1, bk_fw 30 60 30 (by decide) (by decide) (by decide), Int64.add_sub_cancel]
theorem back (x : Int64) : f1 (f2 x) = x := by
  rw [f1_eq, f2_eq, Int64.sub_add_cancel, fw_bk 30 60 30 (by decide) (by decide) (by decide), mul_back _ _ _ i1', fw_bk 27 54 27 (by decide) (by decide) (by decide), mul_back _ _ _ i2', fw_bk 31 62 31 (by decide) (by decide) (by decide)]
theorem law_true (x y : Int64) : f0 x y = 1 := by
  simp only [f0, forth, back, if_pos]
  decide

set_option maxRecDepth 65536 in
set_option maxHeartbeats 40000000 in
theorem comes_1 {Post : Tables → Env → Array Value → State → Outcome → State → Prop} (hpost : ∀ tb e args s v u, (limb_1_1.after args s (.returned v) u = true ∧ limb_1_2.after args s (.returned v) u = true ∧ True) → FrameEnd s (.returned v) u (Jvm.fieldLocs frame_1_writes args s ++ Jvm.arrayLocs frame_1_arrays args s ++ Jvm.staticLocs frame_1_statics s) 0 0 → Post tb e args s (.returned v) u) :
    ArmFor flags0 classFile x code maxLocals ret World_1 tables_1 room_1 Calls_1 rest_1 Pre_1 Post := by
  intro l hfl _ _ p e ha hc hk s m args below hf hA hF happ hP
  obtain ⟨hcalls, hrest, hpre⟩ := hP
  obtain ⟨-, -, -, hnamed, -, -, -, hat⟩ := (Spec.applies_iff hf).mp happ
  obtain ⟨hg, hn⟩ := and_e (Cond.before_iff.mp (show (Jvm.Cond.and given_1 narrow_1).before args s = true from hpre))
  obtain ⟨g0, hg⟩ := and_e hg
  obtain ⟨ga0, hg⟩ := and_e hg
  have ga1 := hg
  obtain ⟨w0, w1, rfl⟩ : ∃ w0 w1 : Value, args = #[w0, w1] := by
    have hs : args.size = 2 := by simpa [Cond.value, given_1] using g0
    obtain ⟨L⟩ := args
    match L, hs with
    | [w0, w1], _ => exact ⟨w0, w1, rfl⟩
  have hw := fun d (hd : d ∈ tables_1) => atoms_spec (ws := Jvm.Cond.code x code maxLocals ret :: tables_1) hat d (List.mem_cons_of_mem _ hd)
  have hfit : Fit s := fun {y c} hc i hi => by
    obtain ⟨ha, rfl⟩ := Array.getElem?_eq_some_iff.mp hc
    have q := List.all_eq_true.mp ((Array.all_eq_true_iff_forall_mem.mp hF) _ (Array.getElem_mem ha)) i (List.mem_range.mpr hi)
    simpa [Array.getElem?_eq_getElem hi] using q
  obtain ⟨i0, ei0⟩ := isL_v ga0
  obtain rfl : w0 = (.long i0) := Option.some.inj ei0
  obtain ⟨i1, ei1⟩ := isL_v ga1
  obtain rfl : w1 = (.long i1) := Option.some.inj ei1
  obtain ⟨n, o, h1, h2, h3, v, L, rfl, hQ, hq⟩ := rm0 l s _ hw tables_1 i0 i1  s.heap s.heap.size (Nat.le_refl _)  p e ha hc hk s m _ below hf ((Spec.applies_iff_loose hf).mp happ).1 ⟨rfl, State.Warmed39.refl s, rfl⟩ trivial
  obtain ⟨hv, N, -⟩ := hQ
  rw [law_true i0 i1] at hv
  subst hv
  refine ⟨n, _, h1, h2, h3, hpost _ _ _ _ _ _ ⟨Cond.after_iff.mpr rfl, Cond.after_iff.mpr (eq_i res_at (Term.int_eval (1)) rfl), trivial⟩ ⟨hq.1, hq.2.1, (hq.2.2.sift fun y hy => Or.inr (N y hy)).mono (by decide) (by decide)⟩⟩
theorem main_1_1 : Claimed_1_1 := comes_1 fun _ _ _ _ _ _ h hF => ⟨h.1, hF⟩
theorem main_1_2 : Claimed_1_2 := comes_1 fun _ _ _ _ _ _ h hF => ⟨h.2.1, hF⟩
end Jvm.Pilot.@@N@@
namespace Jvm.Pilot.@@N@@
open Jvm Jvm.ClassFile Sem Op Lib Jvm.Free Jvm.Stand Jvm.Pilot.@@N@@.Jvm.D
/-! MADE BY PROGRAM (witnessworld.py) out of the Statement's table words and the real class files: 9 classes; the members and pool entries that the words name. The judged class is class 1, her method 3. -/
namespace start1
open Jvm.ClassFile
def u (s : String) : CpInfo := .utf8 (stringToUtf16 s)
/-- a pool by its gaps: so many unusable entries, then the entry; so many at the end -/
def gap : Nat → List CpInfo → List CpInfo
  | 0, r => r
  | n + 1, r => .unusable :: gap n r
def poolList (es : List (Nat × CpInfo)) (last : Nat) : List CpInfo := es.foldr (fun e r => gap e.1 (e.2 :: r)) (gap last [])
def pool (es : List (Nat × CpInfo)) (last : Nat) : Array CpInfo := ⟨poolList es last⟩
def fileOf (pool : Array CpInfo) (this : Nat) (attrs : Array Attribute := #[]) (ms : Array MethodInfo := #[]) (fl : Nat := 33) (sup : Nat := 0) (ifs : Array Nat := #[]) (fds : Array FieldInfo := #[]) : ClassFile where
  minorVersion := 0
  majorVersion := 65
  constantPool := pool
  accessFlags := fl
  thisClass := this
  superClass := sup
  interfaces := ifs
  fields := fds
  methods := ms
  attributes := attrs
def plain (name : String) (sup : Option ClassId) : Class where
  name := name
  kind := .ordinary
  loader := none
  accessFlags := 33
  super := sup
  interfaces := #[]
  cf := none
  fields := #[]
  methods := #[]
  instanceTypes := #[]
  staticTypes := #[]
  resolved := #[]
  callSites := []
  init := .initialized
  statics := none
  mirror := none

def pool0 : Array CpInfo := pool [(5, u "<init>"), (0, u "()V"), (1, .class_ 10), (1, u "java/lang/Object")] 113

def k0m0 : Method := { name := "<init>", desc := "()V", sig := { parameters := [], returnType := none }, accessFlags := 1, code := none }
/-- java/lang/Object -/
def k0 : Class := { plain "java/lang/Object" none with
  accessFlags := 33
  interfaces := #[]
  cf := some (fileOf pool0 8 #[] #[{ accessFlags := 1, nameIndex := 5, descriptorIndex := 6, attributes := #[] }] 33 0 #[] #[])
  fields := #[]
  methods := #[k0m0]
  instanceTypes := #[]
  staticTypes := #[]
  resolved := Array.replicate 124 none
  statics := none }

def pool1 : Array CpInfo := pool [(2, .class_ 4), (1, u "java/lang/Object"), (0, u "<init>"), (0, u "()V"), (0, .long 2), (1, .class_ 10), (0, u "com/example/arnero/arnero/HashSchemeStridePinLaw"), (0, .long 10723151780598845931), (1, .methodref 9 14), (0, .nameAndType 15 16), (0, u "inverseOf"), (0, u "(J)J"), (0, .long 13787848793156543929), (1, .long 11400714819323198485), (1, .methodref 22 23), (0, .class_ 24), (0, .nameAndType 25 16), (0, u "com/example/arnero/arnero/HashScheme"), (0, u "stride"), (0, .methodref 9 27), (0, .nameAndType 28 16), (0, u "unstride"), (0, u "GOLDEN"), (0, u "J"), (1, u "M1"), (0, u "M2"), (2, u "law"), (0, u "(JJ)Z")] 3

def k1m0 : Method := { name := "<init>", desc := "()V", sig := { parameters := [], returnType := none }, accessFlags := 2, code := none }
def k1c1 : Code := { maxStack := 8, maxLocals := 4, code := method_2_code, exceptionTable := #[], attributes := #[] }
def k1m1 : Method := { name := "inverseOf", desc := "(J)J", sig := { parameters := [.long], returnType := some .long }, accessFlags := 10, code := some k1c1 }
def k1c2 : Code := { maxStack := 5, maxLocals := 4, code := method_3_code, exceptionTable := #[], attributes := #[] }
def k1m2 : Method := { name := "unstride", desc := "(J)J", sig := { parameters := [.long], returnType := some .long }, accessFlags := 10, code := some k1c2 }
def k1c3 : Code := { maxStack := 4, maxLocals := 6, code := code, exceptionTable := #[], attributes := #[] }
def k1m3 : Method := { name := "law", desc := "(JJ)Z", sig := { parameters := [.long, .long], returnType := some .boolean }, accessFlags := 9, code := some k1c3 }
/-- com/example/arnero/arnero/HashSchemeStridePinLaw -/
def k1 : Class := { plain "com/example/arnero/arnero/HashSchemeStridePinLaw" (some 0) with
  accessFlags := 49
  interfaces := #[]
  cf := some (fileOf pool1 9 #[] #[{ accessFlags := 2, nameIndex := 5, descriptorIndex := 6, attributes := #[] }, { accessFlags := 10, nameIndex := 15, descriptorIndex := 16, attributes := #[] }, { accessFlags := 10, nameIndex := 28, descriptorIndex := 16, attributes := #[] }, { accessFlags := 9, nameIndex := 36, descriptorIndex := 37, attributes := #[] }] 49 2 #[] #[{ accessFlags := 26, nameIndex := 29, descriptorIndex := 30, attributes := #[] }, { accessFlags := 26, nameIndex := 32, descriptorIndex := 30, attributes := #[] }, { accessFlags := 26, nameIndex := 33, descriptorIndex := 30, attributes := #[] }])
  fields := #[{ name := "GOLDEN", type := .long, accessFlags := 26, slot := 0, constantValue := 0 }, { name := "M1", type := .long, accessFlags := 26, slot := 1, constantValue := 0 }, { name := "M2", type := .long, accessFlags := 26, slot := 2, constantValue := 0 }]
  methods := #[k1m0, k1m1, k1m2, k1m3]
  instanceTypes := #[]
  staticTypes := #[.long, .long, .long]
  resolved := Array.replicate 41 none
  statics := none }

def pool2 : Array CpInfo := pool [(2, .class_ 4), (1, u "java/lang/Object"), (0, u "<init>"), (0, u "()V"), (6, .class_ 14), (0, u "com/example/arnero/arnero/HashScheme"), (0, .long 11400714819323198485), (12, u "(J)J"), (0, .long 13787848793156543929), (1, .long 10723151780598845931), (20, u "ID"), (0, u "I"), (2, u "GOLDEN"), (0, u "J"), (0, u "BLOCK_MULTIPLIER"), (0, u "ROUND_MULTIPLIER"), (0, u "ROUND_ROTATION"), (1, u "FINISH_MULTIPLIER_1"), (0, u "FINISH_MULTIPLIER_2"), (0, u "STRIDE_MULTIPLIER_1"), (0, u "STRIDE_MULTIPLIER_2"), (5, u "stride")] 4

def k2m0 : Method := { name := "<init>", desc := "()V", sig := { parameters := [], returnType := none }, accessFlags := 2, code := none }
def k2c1 : Code := { maxStack := 5, maxLocals := 4, code := prog_6_method_3_code, exceptionTable := #[], attributes := #[] }
def k2m1 : Method := { name := "stride", desc := "(J)J", sig := { parameters := [.long], returnType := some .long }, accessFlags := 8, code := some k2c1 }
/-- com/example/arnero/arnero/HashScheme -/
def k2 : Class := { plain "com/example/arnero/arnero/HashScheme" (some 0) with
  accessFlags := 32
  interfaces := #[]
  cf := some (fileOf pool2 13 #[] #[{ accessFlags := 2, nameIndex := 5, descriptorIndex := 6, attributes := #[] }, { accessFlags := 8, nameIndex := 71, descriptorIndex := 28, attributes := #[] }] 32 2 #[] #[{ accessFlags := 24, nameIndex := 52, descriptorIndex := 53, attributes := #[] }, { accessFlags := 26, nameIndex := 56, descriptorIndex := 57, attributes := #[] }, { accessFlags := 26, nameIndex := 58, descriptorIndex := 57, attributes := #[] }, { accessFlags := 26, nameIndex := 59, descriptorIndex := 57, attributes := #[] }, { accessFlags := 26, nameIndex := 60, descriptorIndex := 53, attributes := #[] }, { accessFlags := 26, nameIndex := 62, descriptorIndex := 57, attributes := #[] }, { accessFlags := 26, nameIndex := 63, descriptorIndex := 57, attributes := #[] }, { accessFlags := 26, nameIndex := 64, descriptorIndex := 57, attributes := #[] }, { accessFlags := 26, nameIndex := 65, descriptorIndex := 57, attributes := #[] }])
  fields := #[{ name := "ID", type := .int, accessFlags := 24, slot := 0, constantValue := 0 }, { name := "GOLDEN", type := .long, accessFlags := 26, slot := 1, constantValue := 0 }, { name := "BLOCK_MULTIPLIER", type := .long, accessFlags := 26, slot := 2, constantValue := 0 }, { name := "ROUND_MULTIPLIER", type := .long, accessFlags := 26, slot := 3, constantValue := 0 }, { name := "ROUND_ROTATION", type := .int, accessFlags := 26, slot := 4, constantValue := 0 }, { name := "FINISH_MULTIPLIER_1", type := .long, accessFlags := 26, slot := 5, constantValue := 0 }, { name := "FINISH_MULTIPLIER_2", type := .long, accessFlags := 26, slot := 6, constantValue := 0 }, { name := "STRIDE_MULTIPLIER_1", type := .long, accessFlags := 26, slot := 7, constantValue := 0 }, { name := "STRIDE_MULTIPLIER_2", type := .long, accessFlags := 26, slot := 8, constantValue := 0 }]
  methods := #[k2m0, k2m1]
  instanceTypes := #[]
  staticTypes := #[.int, .long, .long, .long, .int, .long, .long, .long, .long]
  resolved := Array.replicate 76 none
  statics := none }

def pool3 : Array CpInfo := pool [(1, u "java/lang/Cloneable"), (0, .class_ 1), (0, u "java/lang/Object"), (0, .class_ 3)] 3

/-- java/lang/Cloneable -/
def k3 : Class := { plain "java/lang/Cloneable" (some 0) with
  accessFlags := 1537
  interfaces := #[]
  cf := some (fileOf pool3 2 #[] #[] 1537 4 #[] #[])
  fields := #[]
  methods := #[]
  instanceTypes := #[]
  staticTypes := #[]
  resolved := Array.replicate 8 none
  statics := none }

def pool4 : Array CpInfo := pool [(1, u "java/io/Serializable"), (0, .class_ 1), (0, u "java/lang/Object"), (0, .class_ 3)] 3

/-- java/io/Serializable -/
def k4 : Class := { plain "java/io/Serializable" (some 0) with
  accessFlags := 1537
  interfaces := #[]
  cf := some (fileOf pool4 2 #[] #[] 1537 4 #[] #[])
  fields := #[]
  methods := #[]
  instanceTypes := #[]
  staticTypes := #[]
  resolved := Array.replicate 8 none
  statics := none }

/-- the primitive byte -/
def k5 : Class := { plain "byte" none with kind := .primitive 'B', accessFlags := 0x411 }
/-- [B -/
def k6 : Class := { plain "[B" (some 0) with kind := .array 5 .byte, interfaces := #[3, 4], accessFlags := 1041 }

/-- the primitive int -/
def k7 : Class := { plain "int" none with kind := .primitive 'I', accessFlags := 0x411 }
/-- [I -/
def k8 : Class := { plain "[I" (some 0) with kind := .array 7 .int, interfaces := #[3, 4], accessFlags := 1041 }

def heap : Heap := #[]
def classes : Array Class := #[k0, k1, k2, k3, k4, k5, k6, k7, k8]
def interned : List (Array UInt16 × Addr) := []
def slotsUsed : Nat := 0
def theMethod : MethodId := ⟨1, 3⟩
def args0 : Array Value := #[.long 5, .long 7]
def aboutOver (below : List Frame) : State where
  vm := { classes := classes, interned := interned.toArray }
  heap := heap
  slotsUsed := slotsUsed
  threads := #[{ frames := .invoking theMethod args0 :: below }]
def below0 : List Frame := [.native { method := ⟨0, 0⟩, args := #[] }]
def about1 : State := aboutOver below0
def p0 : Program := .bare "" "" ""
def e0 : Env := launch0.env 0 0 0
theorem w_frames : about1.frames = Frame.invoking theMethod args0 :: below0 := rfl
set_option maxRecDepth 65536 in
theorem w_args : argsFit about1.vm theMethod args0 = true := by decide +kernel
set_option maxRecDepth 65536 in
theorem w_heap : heapFits about1 = true := by decide +kernel
set_option maxRecDepth 65536 in
theorem w_runnable : about1.curStatus? = some .runnable := by decide +kernel
set_option maxRecDepth 65536 in
theorem w_alone : about1.alone = true := by decide +kernel
set_option maxRecDepth 65536 in
theorem w_named : about1.methodNamed? x = some theMethod := by decide +kernel
set_option maxRecDepth 65536 in
theorem w_hears : about1.hears theMethod below0 = true := by decide +kernel
set_option maxRecDepth 65536 in
theorem w_ripe : about1.ripe theMethod args0 below0 = true := by decide +kernel
theorem w_running : about1.status = .running := rfl
set_option maxRecDepth 65536 in
theorem w_room : about1.hasRoom e0.platform room_1 = true :=
  launch0.hasRoom_least _ room_1 (by decide +kernel) (by decide +kernel) (by decide +kernel) (by decide +kernel) (by decide +kernel) (by decide +kernel)
theorem allAtoms_all (ts : List Jvm.Cond) (a : Array Jvm.Value) (st : Jvm.State) : (allAtoms ts).before a st = ts.all (fun c => c.before a st) := by
  induction ts with
  | nil => rfl
  | cons c t ih =>
    show (Jvm.Cond.and c (allAtoms t)).before a st = _
    rw [Jvm.Cond.before_and, ih, List.all_cons]
def words1 : List Jvm.Cond := Jvm.Cond.code x code maxLocals ret :: tables_1
/-- a 'code' word, met by the world's own term for the bytes: nothing is compared byte by byte -/
theorem code_word {y : MethodName} {bytes : ByteArray} {mx : Nat} {rt : Option FieldType} {a : Array Value} {s : State} {m : MethodId} {meth : Method} {c : Code} (h1 : s.methodNamed? y = some m) (h2 : s.vm.method? m = some meth) (h3 : meth.code = some c) (h4 : c.code = bytes)
    (h5 : (c.maxLocals == mx && c.exceptionTable.isEmpty && decide (c.maxStack ≤ mostOperands) && decide (meth.sig.returnType = rt) && !meth.locks && decide (parseMethodDescriptor y.desc = some meth.sig)) = true) : (Jvm.Cond.code y bytes mx rt).before a s = true := by
  simp only [Bool.and_eq_true, beq_iff_eq, Bool.not_eq_true', decide_eq_true_eq] at h5
  obtain ⟨⟨⟨⟨⟨g1, g2⟩, g3⟩, g4⟩, g5⟩, g6⟩ := h5
  simp [Cond.before, Cond.holds, Cond.value, h1, h2, h3, h4, g1, g2, g3, g4, g5, g6]
def isCode : Jvm.Cond → Bool
  | .code _ _ _ _ => true
  | _ => false
theorem all_split {L : List Jvm.Cond} {P : Jvm.Cond → Bool} (h1 : L.all (fun c => isCode c || P c) = true) (h2 : ∀ c ∈ L.filter isCode, P c = true) : L.all P = true := by
  refine List.all_eq_true.mpr fun c hc => ?_
  have h := List.all_eq_true.mp h1 c hc
  rcases Bool.eq_false_or_eq_true (isCode c) with hi | hi
  · exact h2 c (List.mem_filter.mpr ⟨hc, hi⟩)
  · simpa [hi] using h
set_option maxRecDepth 65536 in
theorem w_c0 : (Jvm.Cond.code x code maxLocals ret).before args0 about1 = true := code_word (m := ⟨1, 3⟩) (meth := k1m3) (c := k1c3) (by decide +kernel) rfl rfl rfl (by decide +kernel)
set_option maxRecDepth 65536 in
theorem w_c1 : (Jvm.Cond.code ({ cls := "com/example/arnero/arnero/HashScheme", name := "stride", desc := "(J)J" } : Jvm.MethodName) prog_6_method_3_code (4 : Nat) (Option.some Jvm.ClassFile.FieldType.long)).before args0 about1 = true := code_word (m := ⟨2, 1⟩) (meth := k2m1) (c := k2c1) (by decide +kernel) rfl rfl rfl (by decide +kernel)
set_option maxRecDepth 65536 in
theorem w_c2 : (Jvm.Cond.code ({ cls := "com/example/arnero/arnero/HashSchemeStridePinLaw", name := "unstride", desc := "(J)J" } : Jvm.MethodName) method_3_code (4 : Nat) (Option.some Jvm.ClassFile.FieldType.long)).before args0 about1 = true := code_word (m := ⟨1, 2⟩) (meth := k1m2) (c := k1c2) (by decide +kernel) rfl rfl rfl (by decide +kernel)
set_option maxRecDepth 65536 in
theorem w_c3 : (Jvm.Cond.code ({ cls := "com/example/arnero/arnero/HashSchemeStridePinLaw", name := "inverseOf", desc := "(J)J" } : Jvm.MethodName) method_2_code (4 : Nat) (Option.some Jvm.ClassFile.FieldType.long)).before args0 about1 = true := code_word (m := ⟨1, 1⟩) (meth := k1m1) (c := k1c1) (by decide +kernel) rfl rfl rfl (by decide +kernel)
def codes1 : List Jvm.Cond := [Jvm.Cond.code x code maxLocals ret, Jvm.Cond.code ({ cls := "com/example/arnero/arnero/HashScheme", name := "stride", desc := "(J)J" } : Jvm.MethodName) prog_6_method_3_code (4 : Nat) (Option.some Jvm.ClassFile.FieldType.long), Jvm.Cond.code ({ cls := "com/example/arnero/arnero/HashSchemeStridePinLaw", name := "unstride", desc := "(J)J" } : Jvm.MethodName) method_3_code (4 : Nat) (Option.some Jvm.ClassFile.FieldType.long), Jvm.Cond.code ({ cls := "com/example/arnero/arnero/HashSchemeStridePinLaw", name := "inverseOf", desc := "(J)J" } : Jvm.MethodName) method_2_code (4 : Nat) (Option.some Jvm.ClassFile.FieldType.long)]
set_option maxRecDepth 65536 in
theorem codes_eq : words1.filter isCode = codes1 := rfl
theorem w_codes : ∀ c ∈ words1.filter isCode, c.before args0 about1 = true := by
  rw [codes_eq]
  intro c hc
  simp only [codes1, List.mem_cons, List.not_mem_nil, or_false] at hc
  rcases hc with rfl | rfl | rfl | rfl
  · exact w_c0
  · exact w_c1
  · exact w_c2
  · exact w_c3
set_option maxRecDepth 65536 in
theorem w_t1 : words1.all (fun c => isCode c || c.before args0 about1) = true := by decide +kernel
theorem w_tables : (allAtoms (Jvm.Cond.code x code maxLocals ret :: tables_1)).before args0 about1 = true := by
  rw [allAtoms_all]
  show words1.all (fun c => c.before args0 about1) = true
  refine all_split ?_ w_codes
  rw [w_t1]
set_option maxRecDepth 65536 in
theorem w_case : (Jvm.Cond.and given_1 narrow_1).before args0 about1 = true := by decide +kernel
theorem w_applies : (headSpec (Jvm.Cond.code x code maxLocals ret :: tables_1) room_1).applies x e0.platform about1 = true :=
  (Spec.applies_iff w_frames).mpr ⟨w_running, w_runnable, w_alone, w_named, w_hears, w_ripe, w_room, w_tables⟩
theorem atStart : AtStart classFile x code maxLocals ret World_1 tables_1 room_1 Calls_1 rest_1 Pre_1 launch0 p0 e0 about1 theMethod args0 below0 :=
  ⟨lists_1, trivial, launch0.admits_env _ _ _, launch0.least_env, fairChoices_fair.cas, fairChoices_fair.clock, w_frames, w_args, w_heap, w_applies, trivial, trivial, w_case⟩
end start1
theorem witness_1 : WitnessClaimed_1 := ⟨start1.p0, start1.e0, start1.about1, start1.theMethod, start1.args0, start1.below0, start1.atStart⟩
end Jvm.Pilot.@@N@@
