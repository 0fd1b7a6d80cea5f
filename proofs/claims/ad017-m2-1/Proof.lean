import JvmDerived
import JvmDerived.Pilot.@@N@@Statement
import JvmDerived.Pilot.@@N@@Code
set_option linter.unusedVariables false
set_option linter.unusedSimpArgs false
namespace Jvm.OwnKit
open Sem ClassFile Op Lib Jvm.Stand Jvm.Free Jvm.LawKit Jvm.RoadKit
/-- from S the run comes to a state of which Φ holds -/
def Go (p : Program) (e : Env) (below : List Frame) (Φ : State → Prop) (S : State) : Prop := ∃ u, Steps p.tables e below S u ∧ Φ u
theorem Go.step {p : Program} {e : Env} {below : List Frame} {Φ : State → Prop} {S S' : State} (h : ∀ t, Steps p.tables e below S' t → Steps p.tables e below S t) (k : Go p e below Φ S') : Go p e below Φ S := by
  obtain ⟨u, q, r⟩ := k
  exact ⟨u, h u q, r⟩
theorem Go.trans {p : Program} {e : Env} {below : List Frame} {Φ : State → Prop} {S S' : State} (h : Steps p.tables e below S S') (k : Go p e below Φ S') : Go p e below Φ S := by
  obtain ⟨u, q, r⟩ := k
  exact ⟨u, Steps.trans h q, r⟩
theorem Go.here {p : Program} {e : Env} {below : List Frame} {Φ : State → Prop} {S : State} (k : Φ S) : Go p e below Φ S := ⟨S, Steps.refl _, k⟩
/-- the end of a body -/
def FinQ (below : List Frame) (s : State) (Q : Option Value → Heap → List Loc → Prop) (k n : Nat) (u : State) : Prop :=
  ∃ o, u.status = .running ∧ Ended u below o ∧ ∃ v L, o = .returned v ∧ Q v u.heap L ∧ FrameEnd s o u L k n
theorem Go.done {p : Program} {e : Env} {below : List Frame} {s : State} {Q : Option Value → Heap → List Loc → Prop} {k n : Nat} {S : State} (h : Go p e below (FinQ below s Q k n) S) :
    ∃ s₂ o, Steps p.tables e below S s₂ ∧ s₂.status = .running ∧ Ended s₂ below o ∧ ∃ v L, o = .returned v ∧ Q v s₂.heap L ∧ FrameEnd s o s₂ L k n := by
  obtain ⟨u, q, o, r1, r2, r3⟩ := h
  exact ⟨u, o, q, r1, r2, r3⟩
section New
variable {p : Program} {l : Launch} {e : Env} {R : Room} {s : State} {m : MethodId} {args : Array Value} {below : List Frame} {meth : Method} {c : Code} {T : State} {locs : List Loc} {cells slots : Nat}
/-- the run stands at the frame F, in a heap h -/
def AtF (p : Program) (l : Launch) (e : Env) (R : Room) (s : State) (m : MethodId) (args : Array Value) (below : List Frame) (meth : Method) (c : Code) (n0 cells slots : Nat) (h : Heap) (F : JFrame) (u : State) : Prop :=
  ∃ T' locs', u = T'.setTop F ∧ Stand p l e R s m args below meth c T' locs' cells slots ∧ Fr n0 locs' ∧ T'.heap = h
theorem retG {pc : Nat} {Ls : Array Slot} {w : Value} {t : FieldType} {i : Instr} {rest : List Value} {Q : Option Value → Heap → List Loc → Prop} {k n : Nat}
    (X : Stand p l e R s m args below meth c T locs cells slots) (hx : p.tables.exec = Jvm.exec) (hlocks : meth.locks = false) (hret : meth.sig.returnType = some t) (hn : narrow t w = w)
    (hi : (i = .ireturn ∧ (t = .int ∨ t = .boolean ∨ t = .byte ∨ t = .char ∨ t = .short) ∧ ∃ z, w = .int z) ∨ (i = .lreturn ∧ t = .long ∧ ∃ z, w = .long z) ∨ (i = .dreturn ∧ t = .double ∧ ∃ z, w = .double z) ∨ (i = .freturn ∧ t = .float ∧ ∃ z, w = .float z) ∨ (i = .areturn ∧ t.isReference = true ∧ w.isRef = true))
    (hd : decode c.code pc = .ok (i, 1)) (hQ : Q (some w) T.heap locs) (hc : cells ≤ k) (hs : slots ≤ n) : Go p e below (FinQ below s Q k n) (T.setTop (mkF m pc Ls (w :: rest))) := by
  obtain ⟨fs, hr, hrun, hended, hW, hsame⟩ := X.leave (v := some w) (fun h => by rw [hret] at h; cases h) hlocks
  exact ⟨_, retOut X hx hret hn hi hd hr, _, hrun, hended, _, _, rfl, hQ, ⟨_, rfl⟩, hW, hsame.mono hc hs⟩
theorem retGI {pc : Nat} {Ls : Array Slot} {z : Int32} {rest : List Value} {Q : Option Value → Heap → List Loc → Prop} {k n : Nat}
    (X : Stand p l e R s m args below meth c T locs cells slots) (hx : p.tables.exec = Jvm.exec) (hlocks : meth.locks = false) (hret : meth.sig.returnType = some .int)
    (hd : decode c.code pc = .ok (.ireturn, 1)) (hQ : Q (some (.int z)) T.heap locs) (hc : cells ≤ k) (hs : slots ≤ n) : Go p e below (FinQ below s Q k n) (T.setTop (mkF m pc Ls (.int z :: rest))) :=
  retG X hx hlocks hret rfl (Or.inl ⟨rfl, Or.inl rfl, _, rfl⟩) hd hQ hc hs
theorem retGJ {pc : Nat} {Ls : Array Slot} {z : Int64} {rest : List Value} {Q : Option Value → Heap → List Loc → Prop} {k n : Nat}
    (X : Stand p l e R s m args below meth c T locs cells slots) (hx : p.tables.exec = Jvm.exec) (hlocks : meth.locks = false) (hret : meth.sig.returnType = some .long)
    (hd : decode c.code pc = .ok (.lreturn, 1)) (hQ : Q (some (.long z)) T.heap locs) (hc : cells ≤ k) (hs : slots ≤ n) : Go p e below (FinQ below s Q k n) (T.setTop (mkF m pc Ls (.long z :: rest))) :=
  retG X hx hlocks hret rfl (Or.inr (Or.inl ⟨rfl, rfl, _, rfl⟩)) hd hQ hc hs
theorem retGR {pc : Nat} {Ls : Array Slot} {a : Addr} {t : FieldType} {rest : List Value} {Q : Option Value → Heap → List Loc → Prop} {k n : Nat}
    (X : Stand p l e R s m args below meth c T locs cells slots) (hx : p.tables.exec = Jvm.exec) (hlocks : meth.locks = false) (hret : meth.sig.returnType = some t) (ht : t.isReference = true) (hn : narrow t (.ref a) = .ref a)
    (hd : decode c.code pc = .ok (.areturn, 1)) (hQ : Q (some (.ref a)) T.heap locs) (hc : cells ≤ k) (hs : slots ≤ n) : Go p e below (FinQ below s Q k n) (T.setTop (mkF m pc Ls (.ref a :: rest))) :=
  retG X hx hlocks hret hn (Or.inr (Or.inr (Or.inr (Or.inr ⟨rfl, ht, rfl⟩)))) hd hQ hc hs
theorem retGN {pc : Nat} {Ls : Array Slot} {z z' : Int32} {t : FieldType} {rest : List Value} {Q : Option Value → Heap → List Loc → Prop} {k n : Nat}
    (X : Stand p l e R s m args below meth c T locs cells slots) (hx : p.tables.exec = Jvm.exec) (hlocks : meth.locks = false) (hret : meth.sig.returnType = some t) (ht : t = .boolean ∨ t = .byte ∨ t = .char ∨ t = .short) (hz : nar t z = z')
    (hd : decode c.code pc = .ok (.ireturn, 1)) (hQ : Q (some (.int z')) T.heap locs) (hc : cells ≤ k) (hs : slots ≤ n) : Go p e below (FinQ below s Q k n) (T.setTop (mkF m pc Ls (.int z :: rest))) := by
  subst hz
  obtain ⟨fs, hr, hrun, hended, hW, hsame⟩ := X.leave (v := some (.int (nar t z))) (fun h => by rw [hret] at h; cases h) hlocks
  exact ⟨_, retN X hx hret ht hd hr, _, hrun, hended, _, _, rfl, hQ, ⟨_, rfl⟩, hW, hsame.mono hc hs⟩
theorem retGV {pc : Nat} {Ls : Array Slot} {Q : Option Value → Heap → List Loc → Prop} {k n : Nat}
    (X : Stand p l e R s m args below meth c T locs cells slots) (hx : p.tables.exec = Jvm.exec) (hlocks : meth.locks = false) (hret : meth.sig.returnType = none)
    (hd : decode c.code pc = .ok (.return_, 1)) (hQ : Q none T.heap locs) (hc : cells ≤ k) (hs : slots ≤ n) : Go p e below (FinQ below s Q k n) (T.setTop (mkF m pc Ls [])) := by
  obtain ⟨fs, hr, hrun, hended, hW, hsame⟩ := X.leave (v := none) (fun _ => rfl) hlocks
  exact ⟨_, X.returnOut hx hret hd hr, _, hrun, hended, _, _, rfl, hQ, ⟨_, rfl⟩, hW, hsame.mono hc hs⟩
end New
/-- a body that writes nothing and returns r -/
def QP (r : Value) (h0 : Heap) (n0 : Nat) (v : Option Value) (h : Heap) (L : List Loc) : Prop := v = some r ∧ Fr n0 L ∧ h = h0
def QV (h0 : Heap) (n0 : Nat) (v : Option Value) (h : Heap) (L : List Loc) : Prop := v = none ∧ Fr n0 L ∧ h = h0
def QAI (h0 : Heap) (n0 : Nat) (v : Option Value) (h : Heap) (L : List Loc) : Prop := (∃ z : Int32, v = some (.int z)) ∧ Fr n0 L ∧ h = h0
def QAJ (h0 : Heap) (n0 : Nat) (v : Option Value) (h : Heap) (L : List Loc) : Prop := (∃ z : Int64, v = some (.long z)) ∧ Fr n0 L ∧ h = h0
/-- a law: it returns r and writes nothing old -/
def QL (r : Value) (n0 : Nat) (v : Option Value) (h : Heap) (L : List Loc) : Prop := v = some r ∧ Fr n0 L
theorem remI (x y : Int32) : x - (x / y) * y = x % y := by
  rw [← Int32.toInt_inj, Int32.toInt_sub, Int32.toInt_mul, Int32.toInt_div, Int32.toInt_mod]
  have h := Int.tmod_add_mul_tdiv x.toInt y.toInt
  have r : (x.toInt.tmod y.toInt).bmod (2 ^ 32) = x.toInt.tmod y.toInt := by
    have := Int32.toInt_bmod (x % y)
    rwa [Int32.toInt_mod] at this
  rw [← r]
  have e : ((x.toInt.tdiv y.toInt).bmod (2 ^ 32) * y.toInt).bmod (2 ^ 32) = (x.toInt.tdiv y.toInt * y.toInt).bmod (2 ^ 32) := by simp
  rw [e, Int.sub_bmod_bmod]
  congr 1
  have := Int.mul_comm (x.toInt.tdiv y.toInt) y.toInt
  omega
theorem selP {s : State} {args : Array Value} {C : String} {x y z : MethodName} (hs : (Jvm.Cond.selects C x y).before args s = true) (hyz : y.cls = z.cls) (hp : s.PrivateAt z) (hi : (Jvm.Cond.instanceMethod z).before args s = true) (hz : z.cls ≠ "java/lang/invoke/MethodHandle" ∧ z.cls ≠ "java/lang/invoke/VarHandle") : (Jvm.Cond.selects z.cls z z).before args s = true := by
  obtain ⟨c, r, m, q1, q2, q3, q4, k, hk, hki⟩ := Cond.selects_spec hs
  have hc := findClass_of_methodNamed q3
  rw [hyz] at hc
  exact selects_self_of_private hc hk hki hp hi hz
theorem addI {x y : Int32} (h1 : -2147483648 ≤ x.toInt + y.toInt) (h2 : x.toInt + y.toInt < 2147483648) : (x + y).toInt = x.toInt + y.toInt := by have := c_iadd x y; have := rng32 (x + y); omega
theorem subI {x y : Int32} (h1 : -2147483648 ≤ x.toInt - y.toInt) (h2 : x.toInt - y.toInt < 2147483648) : (x - y).toInt = x.toInt - y.toInt := by have := c_isub x y; have := rng32 (x - y); omega
theorem mulI {x y : Int32} (h1 : -2147483648 ≤ x.toInt * y.toInt) (h2 : x.toInt * y.toInt < 2147483648) : (x * y).toInt = x.toInt * y.toInt := by have := c_imul x y; have := rng32 (x * y); omega
theorem addL {x y : Int64} (h1 : -9223372036854775808 ≤ x.toInt + y.toInt) (h2 : x.toInt + y.toInt < 9223372036854775808) : (x + y).toInt = x.toInt + y.toInt := by have := c_ladd x y; have := rng64 (x + y); omega
theorem subL {x y : Int64} (h1 : -9223372036854775808 ≤ x.toInt - y.toInt) (h2 : x.toInt - y.toInt < 9223372036854775808) : (x - y).toInt = x.toInt - y.toInt := by have := c_lsub x y; have := rng64 (x - y); omega
theorem mulL {x y : Int64} (h1 : -9223372036854775808 ≤ x.toInt * y.toInt) (h2 : x.toInt * y.toInt < 9223372036854775808) : (x * y).toInt = x.toInt * y.toInt := by have := c_lmul x y; have := rng64 (x * y); omega
theorem modI {x y : Int32} (d : Int) (hy : y.toInt = d) (hx : 0 ≤ x.toInt) : (x % y).toInt = x.toInt % d := by rw [Int32.toInt_mod, hy]; exact (tr _ _).1 hx
theorem modL {x y : Int64} (d : Int) (hy : y.toInt = d) (hx : 0 ≤ x.toInt) : (x % y).toInt = x.toInt % d := by rw [Int64.toInt_mod, hy]; exact (tr _ _).1 hx
end Jvm.OwnKit
namespace Jvm.OwnKit
open Sem ClassFile Op Lib Jvm.Stand Jvm.Free Jvm.LawKit Jvm.RoadKit
/-- an array: its length and its elements, by a function -/
def Ary (Z : State) (h : Heap) (a : Addr) (ty : FieldType) (n : Nat) (f : Nat → Value) : Prop := ∃ c : Cell, Arr Z h a c ty ∧ c.slots.size = n ∧ n < 2147483648 ∧ ∀ i, i < n → c.slots[i]? = some (f i)
def upA {α : Type} (f : Nat → α) (j : Nat) (v : α) : Nat → α := fun i => if i = j then v else f i
theorem upA_same {α : Type} (f : Nat → α) (j : Nat) (v : α) : upA f j v j = v := if_pos rfl
theorem upA_ne {α : Type} (f : Nat → α) {j i : Nat} (v : α) (h : i ≠ j) : upA f j v i = f i := if_neg h
section Facts
variable {Z : State} {h h' : Heap} {a b : Addr} {ty : FieldType} {n sl : Nat} {f : Nat → Value} {v : Value} {ws : List Addr} {j : Int32}
theorem Ary.lt (F : Ary Z h a ty n f) : a < h.size := by obtain ⟨c, A, -⟩ := F; exact A.lt
theorem Ary.ext (F : Ary Z h a ty n f) (E : Ext h h') : Ary Z h' a ty n f := by obtain ⟨c, A, r⟩ := F; exact ⟨c, A.ext E, r⟩
theorem Ary.other (F : Ary Z h b ty n f) (W : Wr h h' a sl v) (q : b ≠ a) : Ary Z h' b ty n f := by obtain ⟨c, A, r⟩ := F; exact ⟨c, A.other W q, r⟩
theorem Ary.keep (F : Ary Z h a ty n f) (K : Keep h h' ws) (q : a ∉ ws) : Ary Z h' a ty n f := by obtain ⟨c, A, r⟩ := F; exact ⟨c, ⟨K.2.1 a c A.1 q, A.2⟩, r⟩
theorem Ary.set (F : Ary Z h a ty n f) (W : Wr h h' a sl v) (q : sl < n) : Ary Z h' a ty n (upA f sl v) := by
  obtain ⟨c, A, hs, hn, hf⟩ := F
  obtain ⟨c', e1, -, -, e4, -, e6, e7⟩ := wr_at W A.1
  refine ⟨c', by rw [(e7 rfl).1]; exact A.same W, e4.trans hs, hn, fun i hi => ?_⟩
  by_cases e : i = sl
  · subst e; rw [(e7 rfl).2.1, upA_same]
  · rw [e6 i e, hf i hi, upA_ne _ _ e]
theorem Ary.setI {g : Nat → Int32} {x : Int32} (F : Ary Z h a ty n (fun i => .int (g i))) (W : Wr h h' a sl (.int x)) (q : sl < n) : Ary Z h' a ty n (fun i => .int (upA g sl x i)) := by
  have e : (fun i => Value.int (upA g sl x i)) = upA (fun i => Value.int (g i)) sl (.int x) := by funext i; unfold upA; split <;> rfl
  rw [e]; exact F.set W q
theorem Ary.setJ {g : Nat → Int64} {x : Int64} (F : Ary Z h a ty n (fun i => .long (g i))) (W : Wr h h' a sl (.long x)) (q : sl < n) : Ary Z h' a ty n (fun i => .long (upA g sl x i)) := by
  have e : (fun i => Value.long (upA g sl x i)) = upA (fun i => Value.long (g i)) sl (.long x) := by funext i; unfold upA; split <;> rfl
  rw [e]; exact F.set W q
theorem Ary.congr {f' : Nat → Value} (F : Ary Z h a ty n f) (q : ∀ i, i < n → f i = f' i) : Ary Z h a ty n f' := by
  obtain ⟨c, A, hs, hn, hf⟩ := F
  exact ⟨c, A, hs, hn, fun i hi => by rw [hf i hi, q i hi]⟩
theorem Ary.hin (F : Ary Z h a ty n f) (h0 : ¬ j < 0) (hj : j.toNatClampNeg < n) : ∃ cl, Arr Z h a cl ty ∧ ¬ (j < 0 ∨ cl.slots.size ≤ j.toNatClampNeg) ∧ cl.slots[j.toNatClampNeg]? = some (f j.toNatClampNeg) := by
  obtain ⟨c, A, hs, hn, hf⟩ := F
  exact ⟨c, A, fun q => q.elim h0 (fun r => by omega), hf _ hj⟩
theorem Ary.mk {k : ClassId} {z : Int32} (A : Arr Z h a (newA k ty z) ty) (q : ¬ z < 0) (hn : z.toNatClampNeg = n) : Ary Z h a ty n (fun _ => defaultValue ty) := by
  obtain ⟨c, A', -, hs, -, H, -⟩ := Arv.new A q
  have r := rng32 z
  refine ⟨c, A', hs.trans hn, ?_, fun i hi => ?_⟩
  · rw [← hn]; have := nat_of q; omega
  · have := H i (by rw [hs, hn]; exact hi); simpa using this
end Facts
theorem clamp_nat {k : Nat} (h : k < 2147483648) : (Int32.ofNat k).toNatClampNeg = k := by
  have e : (Int32.ofNat k).toInt = k := Int32.toInt_ofNat_of_lt h
  show (Int32.ofNat k).toInt.toNat = k
  rw [e]; rfl
theorem nat32 {k : Nat} (h : k < 2147483648) : k.toInt32.toInt = k := Int32.toInt_ofNat_of_lt h
section New
variable {p : Program} {l : Launch} {e : Env} {R : Room} {s : State} {m : MethodId} {args : Array Value} {below : List Frame} {meth : Method} {c : Code} {T : State} {locs : List Loc} {cells slots : Nat} {Z : State} {h : Heap} {a : Addr} {n : Nat} {rest : List Value} {g : JFrame} {j : Int32}
theorem ldI {f : Nat → Int32} (X : Stand p l e R s m args below meth c T locs cells slots) (hx : p.tables.exec = Jvm.exec) (hZ : Z.Warmed39 s.vm) (eT : T.heap = h) (F : Ary Z h a .int n (fun i => .int (f i))) (h0 : ¬ j < 0) (hj : j.toNatClampNeg < n)
    (hg : g.method = m) (hs : g.stack = .int j :: .ref a :: rest) (hd : decode c.code g.pc = .ok (.iaload, 1)) : ∀ target, Steps p.tables e below (T.setTop { g with pc := g.pc + 1, stack := .int (f j.toNatClampNeg) :: rest }) target → Steps p.tables e below (T.setTop g) target := fun t k => by
  obtain ⟨cl, A, hin, hat⟩ := F.hin h0 hj
  exact X.iaload hx (by rw [eT]; exact A.1) (State.isArrayOf_alike hZ.alike A.2.1) A.2.2 hin hat hg hs hd t k
theorem ldJ {f : Nat → Int64} (X : Stand p l e R s m args below meth c T locs cells slots) (hx : p.tables.exec = Jvm.exec) (hZ : Z.Warmed39 s.vm) (eT : T.heap = h) (F : Ary Z h a .long n (fun i => .long (f i))) (h0 : ¬ j < 0) (hj : j.toNatClampNeg < n)
    (hg : g.method = m) (hs : g.stack = .int j :: .ref a :: rest) (hd : decode c.code g.pc = .ok (.laload, 1)) : ∀ target, Steps p.tables e below (T.setTop { g with pc := g.pc + 1, stack := .long (f j.toNatClampNeg) :: rest }) target → Steps p.tables e below (T.setTop g) target := fun t k => by
  obtain ⟨cl, A, hin, hat⟩ := F.hin h0 hj
  exact X.laload hx (by rw [eT]; exact A.1) (State.isArrayOf_alike hZ.alike A.2.1) A.2.2 hin hat hg hs hd t k
theorem ldB {f : Nat → Int32} (X : Stand p l e R s m args below meth c T locs cells slots) (hx : p.tables.exec = Jvm.exec) (hZ : Z.Warmed39 s.vm) (eT : T.heap = h) (F : Ary Z h a .byte n (fun i => .int (f i))) (h0 : ¬ j < 0) (hj : j.toNatClampNeg < n)
    (hg : g.method = m) (hs : g.stack = .int j :: .ref a :: rest) (hd : decode c.code g.pc = .ok (.baload, 1)) : ∀ target, Steps p.tables e below (T.setTop { g with pc := g.pc + 1, stack := .int (f j.toNatClampNeg) :: rest }) target → Steps p.tables e below (T.setTop g) target := fun t k => by
  obtain ⟨cl, A, hin, hat⟩ := F.hin h0 hj
  exact X.baloadBytes hx (by rw [eT]; exact A.1) (State.isArrayOf_alike hZ.alike A.2.1) A.2.2 hin hat hg hs hd t k
theorem ldC {f : Nat → Int32} (X : Stand p l e R s m args below meth c T locs cells slots) (hx : p.tables.exec = Jvm.exec) (hZ : Z.Warmed39 s.vm) (eT : T.heap = h) (F : Ary Z h a .char n (fun i => .int (f i))) (h0 : ¬ j < 0) (hj : j.toNatClampNeg < n)
    (hg : g.method = m) (hs : g.stack = .int j :: .ref a :: rest) (hd : decode c.code g.pc = .ok (.caload, 1)) : ∀ target, Steps p.tables e below (T.setTop { g with pc := g.pc + 1, stack := .int (f j.toNatClampNeg) :: rest }) target → Steps p.tables e below (T.setTop g) target := fun t k => by
  obtain ⟨cl, A, hin, hat⟩ := F.hin h0 hj
  exact X.caload hx (by rw [eT]; exact A.1) (State.isArrayOf_alike hZ.alike A.2.1) A.2.2 hin hat hg hs hd t k
theorem ldR {f : Nat → Value} {ty : FieldType} (X : Stand p l e R s m args below meth c T locs cells slots) (hx : p.tables.exec = Jvm.exec) (hZ : Z.Warmed39 s.vm) (eT : T.heap = h) (F : Ary Z h a ty n f) (hty : ty.isReference = true) (h0 : ¬ j < 0) (hj : j.toNatClampNeg < n)
    (hg : g.method = m) (hs : g.stack = .int j :: .ref a :: rest) (hd : decode c.code g.pc = .ok (.aaload, 1)) : ∀ target, Steps p.tables e below (T.setTop { g with pc := g.pc + 1, stack := f j.toNatClampNeg :: rest }) target → Steps p.tables e below (T.setTop g) target := fun t k => by
  obtain ⟨cl, A, hin, hat⟩ := F.hin h0 hj
  exact X.aaload hx (by rw [eT]; exact A.1) (State.isArrayOf_alike hZ.alike A.2.1) hty A.2.2 hin hat hg hs hd t k
theorem lenA {f : Nat → Value} {ty : FieldType} (X : Stand p l e R s m args below meth c T locs cells slots) (hx : p.tables.exec = Jvm.exec) (hZ : Z.Warmed39 s.vm) (eT : T.heap = h) (F : Ary Z h a ty n f)
    (hg : g.method = m) (hs : g.stack = .ref a :: rest) (hd : decode c.code g.pc = .ok (.arraylength, 1)) : ∀ target, Steps p.tables e below (T.setTop { g with pc := g.pc + 1, stack := .int n.toInt32 :: rest }) target → Steps p.tables e below (T.setTop g) target := fun t k => by
  obtain ⟨cl, A, hs', hn, -⟩ := F
  subst hs'
  exact X.arraylength hx (by rw [eT]; exact A.1) (State.isArrayOf_alike hZ.alike A.2.1) hg hs hd t k
theorem lenAz {f : Nat → Value} {ty : FieldType} {z : Int32} (X : Stand p l e R s m args below meth c T locs cells slots) (hx : p.tables.exec = Jvm.exec) (hZ : Z.Warmed39 s.vm) (eT : T.heap = h) (F : Ary Z h a ty n f) (hz : n.toInt32 = z)
    (hg : g.method = m) (hs : g.stack = .ref a :: rest) (hd : decode c.code g.pc = .ok (.arraylength, 1)) : ∀ target, Steps p.tables e below (T.setTop { g with pc := g.pc + 1, stack := .int z :: rest }) target → Steps p.tables e below (T.setTop g) target := fun t k => by
  subst hz
  exact lenA X hx hZ eT F hg hs hd t k
end New
theorem len32 {z : Int32} (q : ¬ z < 0) : z.toNatClampNeg.toInt32 = z := by
  have r := rng32 z
  have e := nat_of q
  apply Int32.toInt_inj.mp
  rw [nat32 (by omega)]; omega
theorem succ32 (j : Nat) : Int32.ofNat j + 1 = Int32.ofNat (j + 1) := by rw [Int32.ofNat_add]; rfl
theorem of_lt {j n : Nat} (hj : j < 2147483648) (hn : n < 2147483648) : Int32.ofNat j < n.toInt32 ↔ j < n := by
  rw [Int32.lt_iff_toInt_lt, show (Int32.ofNat j).toInt = j from Int32.toInt_ofNat_of_lt hj, nat32 hn]; omega
theorem of_nn {j : Nat} (hj : j < 2147483648) : ¬ Int32.ofNat j < 0 := by
  rw [Int32.lt_iff_toInt_lt, show (Int32.ofNat j).toInt = j from Int32.toInt_ofNat_of_lt hj, show (0 : Int32).toInt = 0 by decide]; omega
theorem Ary.len {Z : State} {h : Heap} {a : Addr} {ty : FieldType} {n : Nat} {f : Nat → Value} (F : Ary Z h a ty n f) : n < 2147483648 := by obtain ⟨c, A, hs, hn, -⟩ := F; exact hn
end Jvm.OwnKit
namespace Jvm.Pilot.@@N@@
open Jvm Jvm.ClassFile Sem Op Lib Jvm.Free Jvm.Stand Jvm.LawKit Jvm.RoadKit Jvm.OwnKit Bundle Jvm.Pilot.@@N@@.Jvm.D
theorem d1_0 : decode prog_13_method_1_code 0 = .ok (.aload_n 0, 1) := by decide +kernel
theorem d1_1 : decode prog_13_method_1_code 1 = .ok (.invokespecial 3, 3) := by decide +kernel
theorem d1_4 : decode prog_13_method_1_code 4 = .ok (.aload_n 0, 1) := by decide +kernel
theorem d1_5 : decode prog_13_method_1_code 5 = .ok (.sipush 256, 3) := by decide +kernel
theorem d1_8 : decode prog_13_method_1_code 8 = .ok (.newarray .byte, 2) := by decide +kernel
theorem d1_10 : decode prog_13_method_1_code 10 = .ok (.putfield 11, 3) := by decide +kernel
theorem d1_13 : decode prog_13_method_1_code 13 = .ok (.return_, 1) := by decide +kernel
theorem ef_1 (m : MethodId) (a1 : Addr) : entryFrame m #[(.ref a1)] 1 = mkF m 0 #[.val (.ref a1)] [] := by first | (simp [entryFrame, mkF, argsToLocals, Value.category]; done) | rfl
theorem pn_0 : plainName "com/example/tinwire/tinwire/codec/ByteOutput" = true := by first | (simp [plainName, overriddenIn]; done) | decide +kernel
def Q1 (Z : State) (a1 : Addr) (w_size_a1 : Int32) (u_bytes_a1 : Value) (h0 : Heap) (n0 : Nat) (v : Option Value) (h : Heap) (L : List Loc) : Prop := ∃ (b3 : Addr), v = none ∧ Fr n0 L ∧ Keep h0 h [a1] ∧ h0.size ≤ b3 ∧ Fld Z h a1 "com/example/tinwire/tinwire/codec/ByteOutput" "size" "I" (.int w_size_a1) ∧ Exa Z h a1 "com/example/tinwire/tinwire/codec/ByteOutput" ∧ Fld Z h a1 "com/example/tinwire/tinwire/codec/ByteOutput" "bytes" "[B" (.ref b3) ∧ Ary Z h b3 .byte 256 (fun i => .int ((fun _ => (0 : Int32)) i))
set_option maxRecDepth 65536 in
set_option maxHeartbeats 40000000 in
theorem rm1 (l : Launch) (Z : State) (a0 : Array Value) (hw : ∀ d ∈ tables_1, d.before a0 Z = true) (ws : List Jvm.Cond) (a1 : Addr) (w_size_a1 : Int32) (u_bytes_a1 : Value) (h0 : Heap) (n0 : Nat) (Z0 : n0 ≤ h0.size) (F_size_a1 : Fld Z h0 a1 "com/example/tinwire/tinwire/codec/ByteOutput" "size" "I" (.int w_size_a1)) (E_a1 : Exa Z h0 a1 "com/example/tinwire/tinwire/codec/ByteOutput") (F_bytes_a1 : Fld Z h0 a1 "com/example/tinwire/tinwire/codec/ByteOutput" "bytes" "[B" u_bytes_a1) (g_a1 : n0 ≤ a1) :
    MetFree l (⟨"com/example/tinwire/tinwire/codec/ByteOutput", "<init>", "()V"⟩ : MethodName) (head1 (Jvm.Cond.code (⟨"com/example/tinwire/tinwire/codec/ByteOutput", "<init>", "()V"⟩ : MethodName) prog_13_method_1_code 1 none :: ws) ({ frames := 1, cells := 1, slots := 256, locals := 12 } : Room)) (fun a U => a = #[(.ref a1)] ∧ Z.Warmed39 U.vm ∧ U.heap = h0) (fun _ _ _ _ _ => True) (fun _ U o U' => ∃ v L, o = .returned v ∧ Q1 Z a1 w_size_a1 u_bytes_a1 h0 n0 v U'.heap L ∧ FrameEnd U o U' L ({ frames := 1, cells := 1, slots := 256, locals := 12 } : Room).cells ({ frames := 1, cells := 1, slots := 256, locals := 12 } : Room).slots) := by
  refine MetFree.of_bodySF (plainFor_of_name pn_0) hisR ?_
  intro p e s m args below meth c s₁ Bd hml0 hP hK
  obtain ⟨rfl, hZ, hh⟩ := hP
  have hx := Bd.exec
  have hby := Bd.bytes
  have hml : c.maxLocals = 1 := hml0
  have hown : s.vm.findClass "com/example/tinwire/tinwire/codec/ByteOutput" = some m.cls := findClass_of_methodNamed Bd.named
  have hnm := (name_of_methodNamed Bd.named Bd.method).1
  have X0 : Stand p l e ({ frames := 1, cells := 1, slots := 256, locals := 12 } : Room) s m #[(.ref a1)] below meth c s₁ [] 0 0 := Stand.of_body Bd
  have e0 : s₁.heap = h0 := by rw [← hh, Bd.state]; rfl
  have N0 := Fr.nil n0
  refine Go.done (Go.step (fun t k => castTop (ef_1 m a1) k) ?_)
  have KK0 : Keep h0 h0 [a1] := Keep.refl _ _
  show Go p e below _ (s₁.setTop (mkF m 0 #[.val (.ref a1)] []))
  refine Go.step (fun t k => XS.aloadN X0.here hx rfl (hb hby d1_0) rfl rfl k) ?_
  show Go p e below _ (s₁.setTop (mkF m 1 #[.val (.ref a1)] [(.ref a1)]))
  obtain ⟨T2, X2, e2, st2⟩ := initO X0 hx hZ hown (hw _ (List.mem_of_getElem? (i := 6) rfl)) (hw _ (List.mem_of_getElem? (i := 7) rfl)) (hw _ (List.mem_of_getElem? (i := 8) rfl)) e0 (g := (mkF m 1 #[.val (.ref a1)] [(.ref a1)])) rfl (by rw [hml]; rfl) rfl (hb hby d1_1) (by decide) (W := 0) (by show 2 * 0 + _ ≤ _; exact Nat.le_of_eq rfl) (by decide)
  refine Go.step st2 ?_
  show Go p e below _ (T2.setTop (mkF m 4 #[.val (.ref a1)] []))
  refine Go.step (fun t k => XS.aloadN X2.here hx rfl (hb hby d1_4) rfl rfl k) ?_
  show Go p e below _ (T2.setTop (mkF m 5 #[.val (.ref a1)] [(.ref a1)]))
  refine Go.step (fun t k => XS.sipush X2.here hx rfl (hb hby d1_5)  k) ?_
  show Go p e below _ (T2.setTop (mkF m 8 #[.val (.ref a1)] [(.int (256 : Int32)), (.ref a1)]))
  obtain ⟨T3, h3, k3, X3, e3, E3, A3, st3⟩ := newP X2 hx hZ (hw _ (List.mem_of_getElem? (i := 9) rfl)) e2 (g := (mkF m 8 #[.val (.ref a1)] [(.int (256 : Int32)), (.ref a1)])) rfl (hb hby d1_8) rfl (by decide) (cap := 256) (by decide) (by decide) (by decide) (by decide)
  obtain ⟨b3, g3⟩ : ∃ z, z = h0.size := ⟨_, rfl⟩
  rw [← g3] at A3 st3
  have g_b3 : n0 ≤ b3 := Nat.le_trans Z0 (Nat.le_of_eq g3.symm)
  have sz_b3 : h0.size ≤ b3 := Nat.le_trans KK0.1 (Nat.le_of_eq g3.symm)
  have ne_a1_b3 : a1 ≠ b3 := Nat.ne_of_lt (Nat.lt_of_lt_of_le F_size_a1.lt (Nat.le_of_eq g3.symm))
  refine Go.step st3 ?_
  have F_size_a1_3 := F_size_a1.ext E3
  have E_a1_3 := E_a1.ext E3
  have F_bytes_a1_3 := F_bytes_a1.ext E3
  have Z3 := Nat.le_trans Z0 E3.1
  have KK3 : Keep h0 h3 [a1] := KK0.ext E3
  have A_b3_3 : Ary Z h3 b3 .byte 256 (fun i => .int ((fun _ => (0 : Int32)) i)) := Ary.mk A3 (by decide) (by decide)
  show Go p e below _ (T3.setTop (mkF m 10 #[.val (.ref a1)] [(.ref b3), (.ref a1)]))
  obtain ⟨T4, h4, X4, e4, W4, st4⟩ := putF X3 hx hZ hown (host := "") (Or.inl (hw _ (List.mem_of_getElem? (i := 10) rfl))) Via.refl e3 F_bytes_a1_3 E_a1_3 (Or.inl (hw _ (List.mem_of_getElem? (i := 11) rfl))) (hw _ (List.mem_of_getElem? (i := 1) rfl)) (ty := (.array .byte)) (by decide) rfl rfl (g := (mkF m 10 #[.val (.ref a1)] [(.ref b3), (.ref a1)])) rfl rfl (hb hby d1_10)
  refine Go.step st4 ?_
  have N4 := Fr.snoc X4 N0 g_a1
  have F_size_a1_4 := F_size_a1_3.other W4 (Or.inr (slot_ne (Or.inl (hw _ (List.mem_of_getElem? (i := 18) rfl))) (Or.inl (hw _ (List.mem_of_getElem? (i := 11) rfl))) (by decide) (t := .int) (t' := (.array .byte)) (by decide) (by decide)))
  have E_a1_4 := E_a1_3.wr W4
  have A_b3_4 := A_b3_3.other W4 (Ne.symm ne_a1_b3)
  have Z4 := Nat.le_trans Z3 (Keep.of_wr W4).1
  have KK4 : Keep h0 h4 [a1] := KK3.wr W4 (Or.inl (by simp))
  have F_bytes_a1_4 := F_bytes_a1_3.same W4
  show Go p e below _ (T4.setTop (mkF m 13 #[.val (.ref a1)] []))
  refine retGV X4 hx Bd.notSynchronized Bd.returns (hb hby d1_13) ?_ (by decide) (by decide)
  show Q1 Z a1 w_size_a1 u_bytes_a1 h0 n0 _ T4.heap _
  rw [e4]
  exact ⟨b3, rfl, N4, KK4, sz_b3, F_size_a1_4, E_a1_4, F_bytes_a1_4, A_b3_4⟩
theorem d3_0 : decode prog_13_method_4_code 0 = .ok (.aload_n 0, 1) := by decide +kernel
theorem d3_1 : decode prog_13_method_4_code 1 = .ok (.getfield 31, 3) := by decide +kernel
theorem d3_4 : decode prog_13_method_4_code 4 = .ok (.ireturn, 1) := by decide +kernel
theorem ef_3 (m : MethodId) (a1 : Addr) : entryFrame m #[(.ref a1)] 1 = mkF m 0 #[.val (.ref a1)] [] := by first | (simp [entryFrame, mkF, argsToLocals, Value.category]; done) | rfl
def f3 (w_size_a1 : Int32) : Int32 := w_size_a1
set_option maxRecDepth 65536 in
set_option maxHeartbeats 40000000 in
theorem rm3 (l : Launch) (Z : State) (a0 : Array Value) (hw : ∀ d ∈ tables_1, d.before a0 Z = true) (ws : List Jvm.Cond) (a1 : Addr) (w_size_a1 : Int32) (h0 : Heap) (n0 : Nat) (Z0 : n0 ≤ h0.size) (F_size_a1 : Fld Z h0 a1 "com/example/tinwire/tinwire/codec/ByteOutput" "size" "I" (.int w_size_a1)) :
    MetFree l (⟨"com/example/tinwire/tinwire/codec/ByteOutput", "size", "()I"⟩ : MethodName) (head1 (Jvm.Cond.code (⟨"com/example/tinwire/tinwire/codec/ByteOutput", "size", "()I"⟩ : MethodName) prog_13_method_4_code 1 (some .int) :: ws) ({ frames := 0, cells := 0, slots := 0, locals := 0 } : Room)) (fun a U => a = #[(.ref a1)] ∧ Z.Warmed39 U.vm ∧ U.heap = h0) (fun _ _ _ _ _ => True) (fun _ U o U' => ∃ v L, o = .returned v ∧ QP (.int (f3 w_size_a1)) h0 n0 v U'.heap L ∧ FrameEnd U o U' L ({ frames := 0, cells := 0, slots := 0, locals := 0 } : Room).cells ({ frames := 0, cells := 0, slots := 0, locals := 0 } : Room).slots) := by
  refine MetFree.of_bodySF (plainFor_of_name pn_0) hisR ?_
  intro p e s m args below meth c s₁ Bd hml0 hP hK
  obtain ⟨rfl, hZ, hh⟩ := hP
  have hx := Bd.exec
  have hby := Bd.bytes
  have hml : c.maxLocals = 1 := hml0
  have hown : s.vm.findClass "com/example/tinwire/tinwire/codec/ByteOutput" = some m.cls := findClass_of_methodNamed Bd.named
  have hnm := (name_of_methodNamed Bd.named Bd.method).1
  have X0 : Stand p l e ({ frames := 0, cells := 0, slots := 0, locals := 0 } : Room) s m #[(.ref a1)] below meth c s₁ [] 0 0 := Stand.of_body Bd
  have e0 : s₁.heap = h0 := by rw [← hh, Bd.state]; rfl
  have N0 := Fr.nil n0
  refine Go.done (Go.step (fun t k => castTop (ef_3 m a1) k) ?_)
  have KK0 : Keep h0 h0 [] := Keep.refl _ _
  show Go p e below _ (s₁.setTop (mkF m 0 #[.val (.ref a1)] []))
  refine Go.step (fun t k => XS.aloadN X0.here hx rfl (hb hby d3_0) rfl rfl k) ?_
  show Go p e below _ (s₁.setTop (mkF m 1 #[.val (.ref a1)] [(.ref a1)]))
  obtain ⟨T2, X2, e2, st2⟩ := getF X0 hx hZ hown (host := "") (Or.inl (hw _ (List.mem_of_getElem? (i := 17) rfl))) Via.refl e0 F_size_a1 (g := (mkF m 1 #[.val (.ref a1)] [(.ref a1)])) rfl rfl (hb hby d3_1)
  refine Go.step st2 ?_
  show Go p e below _ (T2.setTop (mkF m 4 #[.val (.ref a1)] [(.int w_size_a1)]))
  exact retGI X2 hx Bd.notSynchronized Bd.returns (hb hby d3_4) ⟨by first | rfl | (simp only [f3]; done) | (simp [f3]; done), N0, e2⟩ (by decide) (by decide)
theorem d7_0 : decode jdk_33_method_47_code 0 = .ok (.iload_n 0, 1) := by decide +kernel
theorem d7_1 : decode jdk_33_method_47_code 1 = .ok (.ifCond .gt 14, 3) := by decide +kernel
theorem d7_15 : decode jdk_33_method_47_code 15 = .ok (.bipush 31, 2) := by decide +kernel
theorem d7_17 : decode jdk_33_method_47_code 17 = .ok (.istore_n 1, 1) := by decide +kernel
theorem d7_18 : decode jdk_33_method_47_code 18 = .ok (.iload_n 0, 1) := by decide +kernel
theorem d7_19 : decode jdk_33_method_47_code 19 = .ok (.ldc_w 264, 3) := by decide +kernel
theorem d7_22 : decode jdk_33_method_47_code 22 = .ok (.if_icmp .lt 11, 3) := by decide +kernel
theorem d7_25 : decode jdk_33_method_47_code 25 = .ok (.iinc 1 (-16), 3) := by decide +kernel
theorem d7_28 : decode jdk_33_method_47_code 28 = .ok (.iload_n 0, 1) := by decide +kernel
theorem d7_29 : decode jdk_33_method_47_code 29 = .ok (.bipush 16, 2) := by decide +kernel
theorem d7_31 : decode jdk_33_method_47_code 31 = .ok (.iushr, 1) := by decide +kernel
theorem d7_32 : decode jdk_33_method_47_code 32 = .ok (.istore_n 0, 1) := by decide +kernel
theorem d7_33 : decode jdk_33_method_47_code 33 = .ok (.iload_n 0, 1) := by decide +kernel
theorem d7_34 : decode jdk_33_method_47_code 34 = .ok (.sipush 256, 3) := by decide +kernel
theorem d7_37 : decode jdk_33_method_47_code 37 = .ok (.if_icmp .lt 11, 3) := by decide +kernel
theorem d7_40 : decode jdk_33_method_47_code 40 = .ok (.iinc 1 (-8), 3) := by decide +kernel
theorem d7_43 : decode jdk_33_method_47_code 43 = .ok (.iload_n 0, 1) := by decide +kernel
theorem d7_44 : decode jdk_33_method_47_code 44 = .ok (.bipush 8, 2) := by decide +kernel
theorem d7_46 : decode jdk_33_method_47_code 46 = .ok (.iushr, 1) := by decide +kernel
theorem d7_47 : decode jdk_33_method_47_code 47 = .ok (.istore_n 0, 1) := by decide +kernel
theorem d7_48 : decode jdk_33_method_47_code 48 = .ok (.iload_n 0, 1) := by decide +kernel
theorem d7_49 : decode jdk_33_method_47_code 49 = .ok (.bipush 16, 2) := by decide +kernel
theorem d7_51 : decode jdk_33_method_47_code 51 = .ok (.if_icmp .lt 10, 3) := by decide +kernel
theorem d7_54 : decode jdk_33_method_47_code 54 = .ok (.iinc 1 (-4), 3) := by decide +kernel
theorem d7_57 : decode jdk_33_method_47_code 57 = .ok (.iload_n 0, 1) := by decide +kernel
theorem d7_58 : decode jdk_33_method_47_code 58 = .ok (.iconst 4, 1) := by decide +kernel
theorem d7_59 : decode jdk_33_method_47_code 59 = .ok (.iushr, 1) := by decide +kernel
theorem d7_60 : decode jdk_33_method_47_code 60 = .ok (.istore_n 0, 1) := by decide +kernel
theorem d7_61 : decode jdk_33_method_47_code 61 = .ok (.iload_n 0, 1) := by decide +kernel
theorem d7_62 : decode jdk_33_method_47_code 62 = .ok (.iconst 4, 1) := by decide +kernel
theorem d7_63 : decode jdk_33_method_47_code 63 = .ok (.if_icmp .lt 10, 3) := by decide +kernel
theorem d7_66 : decode jdk_33_method_47_code 66 = .ok (.iinc 1 (-2), 3) := by decide +kernel
theorem d7_69 : decode jdk_33_method_47_code 69 = .ok (.iload_n 0, 1) := by decide +kernel
theorem d7_70 : decode jdk_33_method_47_code 70 = .ok (.iconst 2, 1) := by decide +kernel
theorem d7_71 : decode jdk_33_method_47_code 71 = .ok (.iushr, 1) := by decide +kernel
theorem d7_72 : decode jdk_33_method_47_code 72 = .ok (.istore_n 0, 1) := by decide +kernel
theorem d7_73 : decode jdk_33_method_47_code 73 = .ok (.iload_n 1, 1) := by decide +kernel
theorem d7_74 : decode jdk_33_method_47_code 74 = .ok (.iload_n 0, 1) := by decide +kernel
theorem d7_75 : decode jdk_33_method_47_code 75 = .ok (.iconst 1, 1) := by decide +kernel
theorem d7_76 : decode jdk_33_method_47_code 76 = .ok (.iushr, 1) := by decide +kernel
theorem d7_77 : decode jdk_33_method_47_code 77 = .ok (.isub, 1) := by decide +kernel
theorem d7_78 : decode jdk_33_method_47_code 78 = .ok (.ireturn, 1) := by decide +kernel
theorem d7_4 : decode jdk_33_method_47_code 4 = .ok (.iload_n 0, 1) := by decide +kernel
theorem d7_5 : decode jdk_33_method_47_code 5 = .ok (.ifCond .ne 8, 3) := by decide +kernel
theorem d7_8 : decode jdk_33_method_47_code 8 = .ok (.bipush 32, 2) := by decide +kernel
theorem d7_10 : decode jdk_33_method_47_code 10 = .ok (.goto 4, 3) := by decide +kernel
theorem d7_14 : decode jdk_33_method_47_code 14 = .ok (.ireturn, 1) := by decide +kernel
theorem d7_13 : decode jdk_33_method_47_code 13 = .ok (.iconst 0, 1) := by decide +kernel
theorem ef_7 (m : MethodId) (p1 : Int32) : entryFrame m #[(.int p1)] 2 = mkF m 0 #[.val (.int p1), .unset] [] := by first | (simp [entryFrame, mkF, argsToLocals, Value.category]; done) | rfl
theorem pn_1 : plainName "java/lang/Integer" = true := by first | (simp [plainName, overriddenIn]; done) | decide +kernel
def f7 (p1 : Int32) : Int32 := (if (0 : Int32) < p1 then ((if (if (if (if p1 < (65536 : Int32) then p1 else ((p1.toUInt32 >>> ((16 : Int32) &&& 31).toUInt32).toInt32)) < (256 : Int32) then (if p1 < (65536 : Int32) then p1 else ((p1.toUInt32 >>> ((16 : Int32) &&& 31).toUInt32).toInt32)) else (((if p1 < (65536 : Int32) then p1 else ((p1.toUInt32 >>> ((16 : Int32) &&& 31).toUInt32).toInt32)).toUInt32 >>> ((8 : Int32) &&& 31).toUInt32).toInt32)) < (16 : Int32) then (if (if p1 < (65536 : Int32) then p1 else ((p1.toUInt32 >>> ((16 : Int32) &&& 31).toUInt32).toInt32)) < (256 : Int32) then (if p1 < (65536 : Int32) then p1 else ((p1.toUInt32 >>> ((16 : Int32) &&& 31).toUInt32).toInt32)) else (((if p1 < (65536 : Int32) then p1 else ((p1.toUInt32 >>> ((16 : Int32) &&& 31).toUInt32).toInt32)).toUInt32 >>> ((8 : Int32) &&& 31).toUInt32).toInt32)) else (((if (if p1 < (65536 : Int32) then p1 else ((p1.toUInt32 >>> ((16 : Int32) &&& 31).toUInt32).toInt32)) < (256 : Int32) then (if p1 < (65536 : Int32) then p1 else ((p1.toUInt32 >>> ((16 : Int32) &&& 31).toUInt32).toInt32)) else (((if p1 < (65536 : Int32) then p1 else ((p1.toUInt32 >>> ((16 : Int32) &&& 31).toUInt32).toInt32)).toUInt32 >>> ((8 : Int32) &&& 31).toUInt32).toInt32)).toUInt32 >>> ((4 : Int32) &&& 31).toUInt32).toInt32)) < (4 : Int32) then (if (if (if p1 < (65536 : Int32) then p1 else ((p1.toUInt32 >>> ((16 : Int32) &&& 31).toUInt32).toInt32)) < (256 : Int32) then (if p1 < (65536 : Int32) then p1 else ((p1.toUInt32 >>> ((16 : Int32) &&& 31).toUInt32).toInt32)) else (((if p1 < (65536 : Int32) then p1 else ((p1.toUInt32 >>> ((16 : Int32) &&& 31).toUInt32).toInt32)).toUInt32 >>> ((8 : Int32) &&& 31).toUInt32).toInt32)) < (16 : Int32) then (if (if p1 < (65536 : Int32) then p1 else ((p1.toUInt32 >>> ((16 : Int32) &&& 31).toUInt32).toInt32)) < (256 : Int32) then (if p1 < (65536 : Int32) then (31 : Int32) else (15 : Int32)) else ((if p1 < (65536 : Int32) then (31 : Int32) else (15 : Int32)) + (-8 : Int32))) else ((if (if p1 < (65536 : Int32) then p1 else ((p1.toUInt32 >>> ((16 : Int32) &&& 31).toUInt32).toInt32)) < (256 : Int32) then (if p1 < (65536 : Int32) then (31 : Int32) else (15 : Int32)) else ((if p1 < (65536 : Int32) then (31 : Int32) else (15 : Int32)) + (-8 : Int32))) + (-4 : Int32))) else ((if (if (if p1 < (65536 : Int32) then p1 else ((p1.toUInt32 >>> ((16 : Int32) &&& 31).toUInt32).toInt32)) < (256 : Int32) then (if p1 < (65536 : Int32) then p1 else ((p1.toUInt32 >>> ((16 : Int32) &&& 31).toUInt32).toInt32)) else (((if p1 < (65536 : Int32) then p1 else ((p1.toUInt32 >>> ((16 : Int32) &&& 31).toUInt32).toInt32)).toUInt32 >>> ((8 : Int32) &&& 31).toUInt32).toInt32)) < (16 : Int32) then (if (if p1 < (65536 : Int32) then p1 else ((p1.toUInt32 >>> ((16 : Int32) &&& 31).toUInt32).toInt32)) < (256 : Int32) then (if p1 < (65536 : Int32) then (31 : Int32) else (15 : Int32)) else ((if p1 < (65536 : Int32) then (31 : Int32) else (15 : Int32)) + (-8 : Int32))) else ((if (if p1 < (65536 : Int32) then p1 else ((p1.toUInt32 >>> ((16 : Int32) &&& 31).toUInt32).toInt32)) < (256 : Int32) then (if p1 < (65536 : Int32) then (31 : Int32) else (15 : Int32)) else ((if p1 < (65536 : Int32) then (31 : Int32) else (15 : Int32)) + (-8 : Int32))) + (-4 : Int32))) + (-2 : Int32))) - (((if (if (if (if p1 < (65536 : Int32) then p1 else ((p1.toUInt32 >>> ((16 : Int32) &&& 31).toUInt32).toInt32)) < (256 : Int32) then (if p1 < (65536 : Int32) then p1 else ((p1.toUInt32 >>> ((16 : Int32) &&& 31).toUInt32).toInt32)) else (((if p1 < (65536 : Int32) then p1 else ((p1.toUInt32 >>> ((16 : Int32) &&& 31).toUInt32).toInt32)).toUInt32 >>> ((8 : Int32) &&& 31).toUInt32).toInt32)) < (16 : Int32) then (if (if p1 < (65536 : Int32) then p1 else ((p1.toUInt32 >>> ((16 : Int32) &&& 31).toUInt32).toInt32)) < (256 : Int32) then (if p1 < (65536 : Int32) then p1 else ((p1.toUInt32 >>> ((16 : Int32) &&& 31).toUInt32).toInt32)) else (((if p1 < (65536 : Int32) then p1 else ((p1.toUInt32 >>> ((16 : Int32) &&& 31).toUInt32).toInt32)).toUInt32 >>> ((8 : Int32) &&& 31).toUInt32).toInt32)) else (((if (if p1 < (65536 : Int32) then p1 else ((p1.toUInt32 >>> ((16 : Int32) &&& 31).toUInt32).toInt32)) < (256 : Int32) then (if p1 < (65536 : Int32) then p1 else ((p1.toUInt32 >>> ((16 : Int32) &&& 31).toUInt32).toInt32)) else (((if p1 < (65536 : Int32) then p1 else ((p1.toUInt32 >>> ((16 : Int32) &&& 31).toUInt32).toInt32)).toUInt32 >>> ((8 : Int32) &&& 31).toUInt32).toInt32)).toUInt32 >>> ((4 : Int32) &&& 31).toUInt32).toInt32)) < (4 : Int32) then (if (if (if p1 < (65536 : Int32) then p1 else ((p1.toUInt32 >>> ((16 : Int32) &&& 31).toUInt32).toInt32)) < (256 : Int32) then (if p1 < (65536 : Int32) then p1 else ((p1.toUInt32 >>> ((16 : Int32) &&& 31).toUInt32).toInt32)) else (((if p1 < (65536 : Int32) then p1 else ((p1.toUInt32 >>> ((16 : Int32) &&& 31).toUInt32).toInt32)).toUInt32 >>> ((8 : Int32) &&& 31).toUInt32).toInt32)) < (16 : Int32) then (if (if p1 < (65536 : Int32) then p1 else ((p1.toUInt32 >>> ((16 : Int32) &&& 31).toUInt32).toInt32)) < (256 : Int32) then (if p1 < (65536 : Int32) then p1 else ((p1.toUInt32 >>> ((16 : Int32) &&& 31).toUInt32).toInt32)) else (((if p1 < (65536 : Int32) then p1 else ((p1.toUInt32 >>> ((16 : Int32) &&& 31).toUInt32).toInt32)).toUInt32 >>> ((8 : Int32) &&& 31).toUInt32).toInt32)) else (((if (if p1 < (65536 : Int32) then p1 else ((p1.toUInt32 >>> ((16 : Int32) &&& 31).toUInt32).toInt32)) < (256 : Int32) then (if p1 < (65536 : Int32) then p1 else ((p1.toUInt32 >>> ((16 : Int32) &&& 31).toUInt32).toInt32)) else (((if p1 < (65536 : Int32) then p1 else ((p1.toUInt32 >>> ((16 : Int32) &&& 31).toUInt32).toInt32)).toUInt32 >>> ((8 : Int32) &&& 31).toUInt32).toInt32)).toUInt32 >>> ((4 : Int32) &&& 31).toUInt32).toInt32)) else (((if (if (if p1 < (65536 : Int32) then p1 else ((p1.toUInt32 >>> ((16 : Int32) &&& 31).toUInt32).toInt32)) < (256 : Int32) then (if p1 < (65536 : Int32) then p1 else ((p1.toUInt32 >>> ((16 : Int32) &&& 31).toUInt32).toInt32)) else (((if p1 < (65536 : Int32) then p1 else ((p1.toUInt32 >>> ((16 : Int32) &&& 31).toUInt32).toInt32)).toUInt32 >>> ((8 : Int32) &&& 31).toUInt32).toInt32)) < (16 : Int32) then (if (if p1 < (65536 : Int32) then p1 else ((p1.toUInt32 >>> ((16 : Int32) &&& 31).toUInt32).toInt32)) < (256 : Int32) then (if p1 < (65536 : Int32) then p1 else ((p1.toUInt32 >>> ((16 : Int32) &&& 31).toUInt32).toInt32)) else (((if p1 < (65536 : Int32) then p1 else ((p1.toUInt32 >>> ((16 : Int32) &&& 31).toUInt32).toInt32)).toUInt32 >>> ((8 : Int32) &&& 31).toUInt32).toInt32)) else (((if (if p1 < (65536 : Int32) then p1 else ((p1.toUInt32 >>> ((16 : Int32) &&& 31).toUInt32).toInt32)) < (256 : Int32) then (if p1 < (65536 : Int32) then p1 else ((p1.toUInt32 >>> ((16 : Int32) &&& 31).toUInt32).toInt32)) else (((if p1 < (65536 : Int32) then p1 else ((p1.toUInt32 >>> ((16 : Int32) &&& 31).toUInt32).toInt32)).toUInt32 >>> ((8 : Int32) &&& 31).toUInt32).toInt32)).toUInt32 >>> ((4 : Int32) &&& 31).toUInt32).toInt32)).toUInt32 >>> ((2 : Int32) &&& 31).toUInt32).toInt32)).toUInt32 >>> ((1 : Int32) &&& 31).toUInt32).toInt32)) else (if p1 = (0 : Int32) then (32 : Int32) else (0 : Int32)))
set_option maxRecDepth 65536 in
set_option maxHeartbeats 40000000 in
theorem rm7 (l : Launch) (Z : State) (a0 : Array Value) (hw : ∀ d ∈ tables_1, d.before a0 Z = true) (ws : List Jvm.Cond) (p1 : Int32) (h0 : Heap) (n0 : Nat) (Z0 : n0 ≤ h0.size) :
    MetFree l (⟨"java/lang/Integer", "numberOfLeadingZeros", "(I)I"⟩ : MethodName) (head1 (Jvm.Cond.code (⟨"java/lang/Integer", "numberOfLeadingZeros", "(I)I"⟩ : MethodName) jdk_33_method_47_code 2 (some .int) :: ws) ({ frames := 0, cells := 0, slots := 0, locals := 0 } : Room)) (fun a U => a = #[(.int p1)] ∧ Z.Warmed39 U.vm ∧ U.heap = h0) (fun _ _ _ _ _ => True) (fun _ U o U' => ∃ v L, o = .returned v ∧ QP (.int (f7 p1)) h0 n0 v U'.heap L ∧ FrameEnd U o U' L ({ frames := 0, cells := 0, slots := 0, locals := 0 } : Room).cells ({ frames := 0, cells := 0, slots := 0, locals := 0 } : Room).slots) := by
  refine MetFree.of_bodySF (plainFor_of_name pn_1) hisR ?_
  intro p e s m args below meth c s₁ Bd hml0 hP hK
  obtain ⟨rfl, hZ, hh⟩ := hP
  have hx := Bd.exec
  have hby := Bd.bytes
  have hml : c.maxLocals = 2 := hml0
  have hown : s.vm.findClass "java/lang/Integer" = some m.cls := findClass_of_methodNamed Bd.named
  have hnm := (name_of_methodNamed Bd.named Bd.method).1
  have X0 : Stand p l e ({ frames := 0, cells := 0, slots := 0, locals := 0 } : Room) s m #[(.int p1)] below meth c s₁ [] 0 0 := Stand.of_body Bd
  have e0 : s₁.heap = h0 := by rw [← hh, Bd.state]; rfl
  have N0 := Fr.nil n0
  refine Go.done (Go.step (fun t k => castTop (ef_7 m p1) k) ?_)
  have KK0 : Keep h0 h0 [] := Keep.refl _ _
  show Go p e below _ (s₁.setTop (mkF m 0 #[.val (.int p1), .unset] []))
  refine Go.step (fun t k => XS.iloadN X0.here hx rfl (hb hby d7_0) rfl k) ?_
  show Go p e below _ (s₁.setTop (mkF m 1 #[.val (.int p1), .unset] [(.int p1)]))
  by_cases hc2 : (0 : Int32) < p1
  · refine Go.step (fun t k => XS.ifYes X0.here hx rfl (pc0 := 1) (pc' := 15) rfl (hb hby d7_1) rfl ((if0 _ _).trans (tlt hc2).2.2.1) (by decide) (by decide) k) ?_
    show Go p e below _ (s₁.setTop (mkF m 15 #[.val (.int p1), .unset] []))
    refine Go.step (fun t k => XS.bipush X0.here hx rfl (hb hby d7_15)  k) ?_
    show Go p e below _ (s₁.setTop (mkF m 17 #[.val (.int p1), .unset] [(.int (31 : Int32))]))
    refine Go.step (fun t k => XS.istoreN X0.here hx rfl (hb hby d7_17) rfl (l' := #[.val (.int p1), .val (.int (31 : Int32))]) rfl k) ?_
    show Go p e below _ (s₁.setTop (mkF m 18 #[.val (.int p1), .val (.int (31 : Int32))] []))
    refine Go.step (fun t k => XS.iloadN X0.here hx rfl (hb hby d7_18) rfl k) ?_
    show Go p e below _ (s₁.setTop (mkF m 19 #[.val (.int p1), .val (.int (31 : Int32))] [(.int p1)]))
    refine Go.step (X0.ldcwInt hx hown (mvT hZ (hw _ (List.mem_of_getElem? (i := 35) rfl))) (g := (mkF m 19 #[.val (.int p1), .val (.int (31 : Int32))] [(.int p1)])) rfl (hb hby d7_19)) ?_
    show Go p e below _ (s₁.setTop (mkF m 22 #[.val (.int p1), .val (.int (31 : Int32))] [(.int (65536 : Int32)), (.int p1)]))
    obtain ⟨v5, hv5⟩ : ∃ z : Int32, z = (if p1 < (65536 : Int32) then p1 else ((p1.toUInt32 >>> ((16 : Int32) &&& 31).toUInt32).toInt32)) := ⟨_, rfl⟩
    obtain ⟨v6, hv6⟩ : ∃ z : Int32, z = (if p1 < (65536 : Int32) then (31 : Int32) else (15 : Int32)) := ⟨_, rfl⟩
    have J22 : Go p e below (AtF p l e ({ frames := 0, cells := 0, slots := 0, locals := 0 } : Room) s m #[(.int p1)] below meth c n0 0 0 h0 (mkF m 33 #[.val (.int v5), .val (.int v6)] [])) (s₁.setTop (mkF m 22 #[.val (.int p1), .val (.int (31 : Int32))] [(.int (65536 : Int32)), (.int p1)])) := by
      by_cases hc3 : p1 < (65536 : Int32)
      · refine Go.step (fun t k => XS.icmpYes X0.here hx rfl (pc0 := 22) (pc' := 33) rfl (hb hby d7_22) rfl (tlt hc3).1 (by decide) (by decide) k) ?_
        show Go p e below _ (s₁.setTop (mkF m 33 #[.val (.int p1), .val (.int (31 : Int32))] []))
        exact Go.here ⟨_, _, by simp only [hv5, hv6, if_pos hc3], X0, N0, e0⟩
      · refine Go.step (fun t k => XS.icmpNo X0.here hx rfl (hb hby d7_22) rfl (flt hc3).1 k) ?_
        show Go p e below _ (s₁.setTop (mkF m 25 #[.val (.int p1), .val (.int (31 : Int32))] []))
        refine Go.step (fun t k => XS.iinc X0.here hx rfl (hb hby d7_25) rfl (l' := #[.val (.int p1), .val (.int (15 : Int32))]) rfl k) ?_
        show Go p e below _ (s₁.setTop (mkF m 28 #[.val (.int p1), .val (.int (15 : Int32))] []))
        refine Go.step (fun t k => XS.iloadN X0.here hx rfl (hb hby d7_28) rfl k) ?_
        show Go p e below _ (s₁.setTop (mkF m 29 #[.val (.int p1), .val (.int (15 : Int32))] [(.int p1)]))
        refine Go.step (fun t k => XS.bipush X0.here hx rfl (hb hby d7_29)  k) ?_
        show Go p e below _ (s₁.setTop (mkF m 31 #[.val (.int p1), .val (.int (15 : Int32))] [(.int (16 : Int32)), (.int p1)]))
        refine Go.step (fun t k => XS.iushr X0.here hx rfl (hb hby d7_31) rfl k) ?_
        show Go p e below _ (s₁.setTop (mkF m 32 #[.val (.int p1), .val (.int (15 : Int32))] [(.int ((p1.toUInt32 >>> ((16 : Int32) &&& 31).toUInt32).toInt32))]))
        obtain ⟨v4, hv4⟩ : ∃ z : Int32, z = ((p1.toUInt32 >>> ((16 : Int32) &&& 31).toUInt32).toInt32) := ⟨_, rfl⟩
        rw [← hv4]
        show Go p e below _ (s₁.setTop (mkF m 32 #[.val (.int p1), .val (.int (15 : Int32))] [(.int v4)]))
        refine Go.step (fun t k => XS.istoreN X0.here hx rfl (hb hby d7_32) rfl (l' := #[.val (.int v4), .val (.int (15 : Int32))]) rfl k) ?_
        show Go p e below _ (s₁.setTop (mkF m 33 #[.val (.int v4), .val (.int (15 : Int32))] []))
        subst hv4
        exact Go.here ⟨_, _, by simp only [hv5, hv6, if_neg hc3], X0, N0, e0⟩
    obtain ⟨_, st7, T7, Lj7, rfl, X7, N7, e7⟩ := J22
    refine Go.trans st7 ?_
    show Go p e below _ (T7.setTop (mkF m 33 #[.val (.int v5), .val (.int v6)] []))
    refine Go.step (fun t k => XS.iloadN X7.here hx rfl (hb hby d7_33) rfl k) ?_
    show Go p e below _ (T7.setTop (mkF m 34 #[.val (.int v5), .val (.int v6)] [(.int v5)]))
    refine Go.step (fun t k => XS.sipush X7.here hx rfl (hb hby d7_34)  k) ?_
    show Go p e below _ (T7.setTop (mkF m 37 #[.val (.int v5), .val (.int v6)] [(.int (256 : Int32)), (.int v5)]))
    obtain ⟨v10, hv10⟩ : ∃ z : Int32, z = (if v5 < (256 : Int32) then v5 else ((v5.toUInt32 >>> ((8 : Int32) &&& 31).toUInt32).toInt32)) := ⟨_, rfl⟩
    obtain ⟨v11, hv11⟩ : ∃ z : Int32, z = (if v5 < (256 : Int32) then v6 else (v6 + (-8 : Int32))) := ⟨_, rfl⟩
    have J37 : Go p e below (AtF p l e ({ frames := 0, cells := 0, slots := 0, locals := 0 } : Room) s m #[(.int p1)] below meth c n0 0 0 h0 (mkF m 48 #[.val (.int v10), .val (.int v11)] [])) (T7.setTop (mkF m 37 #[.val (.int v5), .val (.int v6)] [(.int (256 : Int32)), (.int v5)])) := by
      by_cases hc8 : v5 < (256 : Int32)
      · refine Go.step (fun t k => XS.icmpYes X7.here hx rfl (pc0 := 37) (pc' := 48) rfl (hb hby d7_37) rfl (tlt hc8).1 (by decide) (by decide) k) ?_
        show Go p e below _ (T7.setTop (mkF m 48 #[.val (.int v5), .val (.int v6)] []))
        exact Go.here ⟨_, _, by simp only [hv10, hv11, if_pos hc8], X7, N7, e7⟩
      · refine Go.step (fun t k => XS.icmpNo X7.here hx rfl (hb hby d7_37) rfl (flt hc8).1 k) ?_
        show Go p e below _ (T7.setTop (mkF m 40 #[.val (.int v5), .val (.int v6)] []))
        refine Go.step (fun t k => XS.iinc X7.here hx rfl (hb hby d7_40) rfl (l' := #[.val (.int v5), .val (.int (v6 + (-8 : Int32)))]) rfl k) ?_
        show Go p e below _ (T7.setTop (mkF m 43 #[.val (.int v5), .val (.int (v6 + (-8 : Int32)))] []))
        refine Go.step (fun t k => XS.iloadN X7.here hx rfl (hb hby d7_43) rfl k) ?_
        show Go p e below _ (T7.setTop (mkF m 44 #[.val (.int v5), .val (.int (v6 + (-8 : Int32)))] [(.int v5)]))
        refine Go.step (fun t k => XS.bipush X7.here hx rfl (hb hby d7_44)  k) ?_
        show Go p e below _ (T7.setTop (mkF m 46 #[.val (.int v5), .val (.int (v6 + (-8 : Int32)))] [(.int (8 : Int32)), (.int v5)]))
        refine Go.step (fun t k => XS.iushr X7.here hx rfl (hb hby d7_46) rfl k) ?_
        show Go p e below _ (T7.setTop (mkF m 47 #[.val (.int v5), .val (.int (v6 + (-8 : Int32)))] [(.int ((v5.toUInt32 >>> ((8 : Int32) &&& 31).toUInt32).toInt32))]))
        obtain ⟨v9, hv9⟩ : ∃ z : Int32, z = ((v5.toUInt32 >>> ((8 : Int32) &&& 31).toUInt32).toInt32) := ⟨_, rfl⟩
        rw [← hv9]
        show Go p e below _ (T7.setTop (mkF m 47 #[.val (.int v5), .val (.int (v6 + (-8 : Int32)))] [(.int v9)]))
        refine Go.step (fun t k => XS.istoreN X7.here hx rfl (hb hby d7_47) rfl (l' := #[.val (.int v9), .val (.int (v6 + (-8 : Int32)))]) rfl k) ?_
        show Go p e below _ (T7.setTop (mkF m 48 #[.val (.int v9), .val (.int (v6 + (-8 : Int32)))] []))
        subst hv9
        exact Go.here ⟨_, _, by simp only [hv10, hv11, if_neg hc8], X7, N7, e7⟩
    obtain ⟨_, st12, T12, Lj12, rfl, X12, N12, e12⟩ := J37
    refine Go.trans st12 ?_
    show Go p e below _ (T12.setTop (mkF m 48 #[.val (.int v10), .val (.int v11)] []))
    refine Go.step (fun t k => XS.iloadN X12.here hx rfl (hb hby d7_48) rfl k) ?_
    show Go p e below _ (T12.setTop (mkF m 49 #[.val (.int v10), .val (.int v11)] [(.int v10)]))
    refine Go.step (fun t k => XS.bipush X12.here hx rfl (hb hby d7_49)  k) ?_
    show Go p e below _ (T12.setTop (mkF m 51 #[.val (.int v10), .val (.int v11)] [(.int (16 : Int32)), (.int v10)]))
    obtain ⟨v15, hv15⟩ : ∃ z : Int32, z = (if v10 < (16 : Int32) then v10 else ((v10.toUInt32 >>> ((4 : Int32) &&& 31).toUInt32).toInt32)) := ⟨_, rfl⟩
    obtain ⟨v16, hv16⟩ : ∃ z : Int32, z = (if v10 < (16 : Int32) then v11 else (v11 + (-4 : Int32))) := ⟨_, rfl⟩
    have J51 : Go p e below (AtF p l e ({ frames := 0, cells := 0, slots := 0, locals := 0 } : Room) s m #[(.int p1)] below meth c n0 0 0 h0 (mkF m 61 #[.val (.int v15), .val (.int v16)] [])) (T12.setTop (mkF m 51 #[.val (.int v10), .val (.int v11)] [(.int (16 : Int32)), (.int v10)])) := by
      by_cases hc13 : v10 < (16 : Int32)
      · refine Go.step (fun t k => XS.icmpYes X12.here hx rfl (pc0 := 51) (pc' := 61) rfl (hb hby d7_51) rfl (tlt hc13).1 (by decide) (by decide) k) ?_
        show Go p e below _ (T12.setTop (mkF m 61 #[.val (.int v10), .val (.int v11)] []))
        exact Go.here ⟨_, _, by simp only [hv15, hv16, if_pos hc13], X12, N12, e12⟩
      · refine Go.step (fun t k => XS.icmpNo X12.here hx rfl (hb hby d7_51) rfl (flt hc13).1 k) ?_
        show Go p e below _ (T12.setTop (mkF m 54 #[.val (.int v10), .val (.int v11)] []))
        refine Go.step (fun t k => XS.iinc X12.here hx rfl (hb hby d7_54) rfl (l' := #[.val (.int v10), .val (.int (v11 + (-4 : Int32)))]) rfl k) ?_
        show Go p e below _ (T12.setTop (mkF m 57 #[.val (.int v10), .val (.int (v11 + (-4 : Int32)))] []))
        refine Go.step (fun t k => XS.iloadN X12.here hx rfl (hb hby d7_57) rfl k) ?_
        show Go p e below _ (T12.setTop (mkF m 58 #[.val (.int v10), .val (.int (v11 + (-4 : Int32)))] [(.int v10)]))
        refine Go.step (fun t k => XS.iconst X12.here hx rfl (hb hby d7_58)  k) ?_
        show Go p e below _ (T12.setTop (mkF m 59 #[.val (.int v10), .val (.int (v11 + (-4 : Int32)))] [(.int (4 : Int32)), (.int v10)]))
        refine Go.step (fun t k => XS.iushr X12.here hx rfl (hb hby d7_59) rfl k) ?_
        show Go p e below _ (T12.setTop (mkF m 60 #[.val (.int v10), .val (.int (v11 + (-4 : Int32)))] [(.int ((v10.toUInt32 >>> ((4 : Int32) &&& 31).toUInt32).toInt32))]))
        obtain ⟨v14, hv14⟩ : ∃ z : Int32, z = ((v10.toUInt32 >>> ((4 : Int32) &&& 31).toUInt32).toInt32) := ⟨_, rfl⟩
        rw [← hv14]
        show Go p e below _ (T12.setTop (mkF m 60 #[.val (.int v10), .val (.int (v11 + (-4 : Int32)))] [(.int v14)]))
        refine Go.step (fun t k => XS.istoreN X12.here hx rfl (hb hby d7_60) rfl (l' := #[.val (.int v14), .val (.int (v11 + (-4 : Int32)))]) rfl k) ?_
        show Go p e below _ (T12.setTop (mkF m 61 #[.val (.int v14), .val (.int (v11 + (-4 : Int32)))] []))
        subst hv14
        exact Go.here ⟨_, _, by simp only [hv15, hv16, if_neg hc13], X12, N12, e12⟩
    obtain ⟨_, st17, T17, Lj17, rfl, X17, N17, e17⟩ := J51
    refine Go.trans st17 ?_
    show Go p e below _ (T17.setTop (mkF m 61 #[.val (.int v15), .val (.int v16)] []))
    refine Go.step (fun t k => XS.iloadN X17.here hx rfl (hb hby d7_61) rfl k) ?_
    show Go p e below _ (T17.setTop (mkF m 62 #[.val (.int v15), .val (.int v16)] [(.int v15)]))
    refine Go.step (fun t k => XS.iconst X17.here hx rfl (hb hby d7_62)  k) ?_
    show Go p e below _ (T17.setTop (mkF m 63 #[.val (.int v15), .val (.int v16)] [(.int (4 : Int32)), (.int v15)]))
    obtain ⟨v20, hv20⟩ : ∃ z : Int32, z = (if v15 < (4 : Int32) then v15 else ((v15.toUInt32 >>> ((2 : Int32) &&& 31).toUInt32).toInt32)) := ⟨_, rfl⟩
    obtain ⟨v21, hv21⟩ : ∃ z : Int32, z = (if v15 < (4 : Int32) then v16 else (v16 + (-2 : Int32))) := ⟨_, rfl⟩
    have J63 : Go p e below (AtF p l e ({ frames := 0, cells := 0, slots := 0, locals := 0 } : Room) s m #[(.int p1)] below meth c n0 0 0 h0 (mkF m 73 #[.val (.int v20), .val (.int v21)] [])) (T17.setTop (mkF m 63 #[.val (.int v15), .val (.int v16)] [(.int (4 : Int32)), (.int v15)])) := by
      by_cases hc18 : v15 < (4 : Int32)
      · refine Go.step (fun t k => XS.icmpYes X17.here hx rfl (pc0 := 63) (pc' := 73) rfl (hb hby d7_63) rfl (tlt hc18).1 (by decide) (by decide) k) ?_
        show Go p e below _ (T17.setTop (mkF m 73 #[.val (.int v15), .val (.int v16)] []))
        exact Go.here ⟨_, _, by simp only [hv20, hv21, if_pos hc18], X17, N17, e17⟩
      · refine Go.step (fun t k => XS.icmpNo X17.here hx rfl (hb hby d7_63) rfl (flt hc18).1 k) ?_
        show Go p e below _ (T17.setTop (mkF m 66 #[.val (.int v15), .val (.int v16)] []))
        refine Go.step (fun t k => XS.iinc X17.here hx rfl (hb hby d7_66) rfl (l' := #[.val (.int v15), .val (.int (v16 + (-2 : Int32)))]) rfl k) ?_
        show Go p e below _ (T17.setTop (mkF m 69 #[.val (.int v15), .val (.int (v16 + (-2 : Int32)))] []))
        refine Go.step (fun t k => XS.iloadN X17.here hx rfl (hb hby d7_69) rfl k) ?_
        show Go p e below _ (T17.setTop (mkF m 70 #[.val (.int v15), .val (.int (v16 + (-2 : Int32)))] [(.int v15)]))
        refine Go.step (fun t k => XS.iconst X17.here hx rfl (hb hby d7_70)  k) ?_
        show Go p e below _ (T17.setTop (mkF m 71 #[.val (.int v15), .val (.int (v16 + (-2 : Int32)))] [(.int (2 : Int32)), (.int v15)]))
        refine Go.step (fun t k => XS.iushr X17.here hx rfl (hb hby d7_71) rfl k) ?_
        show Go p e below _ (T17.setTop (mkF m 72 #[.val (.int v15), .val (.int (v16 + (-2 : Int32)))] [(.int ((v15.toUInt32 >>> ((2 : Int32) &&& 31).toUInt32).toInt32))]))
        obtain ⟨v19, hv19⟩ : ∃ z : Int32, z = ((v15.toUInt32 >>> ((2 : Int32) &&& 31).toUInt32).toInt32) := ⟨_, rfl⟩
        rw [← hv19]
        show Go p e below _ (T17.setTop (mkF m 72 #[.val (.int v15), .val (.int (v16 + (-2 : Int32)))] [(.int v19)]))
        refine Go.step (fun t k => XS.istoreN X17.here hx rfl (hb hby d7_72) rfl (l' := #[.val (.int v19), .val (.int (v16 + (-2 : Int32)))]) rfl k) ?_
        show Go p e below _ (T17.setTop (mkF m 73 #[.val (.int v19), .val (.int (v16 + (-2 : Int32)))] []))
        subst hv19
        exact Go.here ⟨_, _, by simp only [hv20, hv21, if_neg hc18], X17, N17, e17⟩
    obtain ⟨_, st22, T22, Lj22, rfl, X22, N22, e22⟩ := J63
    refine Go.trans st22 ?_
    show Go p e below _ (T22.setTop (mkF m 73 #[.val (.int v20), .val (.int v21)] []))
    refine Go.step (fun t k => XS.iloadN X22.here hx rfl (hb hby d7_73) rfl k) ?_
    show Go p e below _ (T22.setTop (mkF m 74 #[.val (.int v20), .val (.int v21)] [(.int v21)]))
    refine Go.step (fun t k => XS.iloadN X22.here hx rfl (hb hby d7_74) rfl k) ?_
    show Go p e below _ (T22.setTop (mkF m 75 #[.val (.int v20), .val (.int v21)] [(.int v20), (.int v21)]))
    refine Go.step (fun t k => XS.iconst X22.here hx rfl (hb hby d7_75)  k) ?_
    show Go p e below _ (T22.setTop (mkF m 76 #[.val (.int v20), .val (.int v21)] [(.int (1 : Int32)), (.int v20), (.int v21)]))
    refine Go.step (fun t k => XS.iushr X22.here hx rfl (hb hby d7_76) rfl k) ?_
    show Go p e below _ (T22.setTop (mkF m 77 #[.val (.int v20), .val (.int v21)] [(.int ((v20.toUInt32 >>> ((1 : Int32) &&& 31).toUInt32).toInt32)), (.int v21)]))
    refine Go.step (fun t k => XS.isub X22.here hx rfl (hb hby d7_77) rfl k) ?_
    show Go p e below _ (T22.setTop (mkF m 78 #[.val (.int v20), .val (.int v21)] [(.int (v21 - ((v20.toUInt32 >>> ((1 : Int32) &&& 31).toUInt32).toInt32)))]))
    subst hv21
    subst hv20
    subst hv16
    subst hv15
    subst hv11
    subst hv10
    subst hv6
    subst hv5
    exact retGI X22 hx Bd.notSynchronized Bd.returns (hb hby d7_78) ⟨by first | (simp only [f7, if_pos hc2]; done) | rfl | (simp [f7, if_pos hc2]; done), N22, e22⟩ (by decide) (by decide)
  · refine Go.step (fun t k => XS.ifNo X0.here hx rfl (hb hby d7_1) rfl ((if0 _ _).trans (flt hc2).2.2.1) k) ?_
    show Go p e below _ (s₁.setTop (mkF m 4 #[.val (.int p1), .unset] []))
    refine Go.step (fun t k => XS.iloadN X0.here hx rfl (hb hby d7_4) rfl k) ?_
    show Go p e below _ (s₁.setTop (mkF m 5 #[.val (.int p1), .unset] [(.int p1)]))
    by_cases hc23 : p1 = (0 : Int32)
    · refine Go.step (fun t k => XS.ifNo X0.here hx rfl (hb hby d7_5) rfl ((if0 _ _).trans (teq hc23).2) k) ?_
      show Go p e below _ (s₁.setTop (mkF m 8 #[.val (.int p1), .unset] []))
      refine Go.step (fun t k => XS.bipush X0.here hx rfl (hb hby d7_8)  k) ?_
      show Go p e below _ (s₁.setTop (mkF m 10 #[.val (.int p1), .unset] [(.int (32 : Int32))]))
      refine Go.step (fun t k => XS.goto X0.here hx rfl (pc0 := 10) (pc' := 14) rfl (hb hby d7_10) (by decide) (by decide) k) ?_
      show Go p e below _ (s₁.setTop (mkF m 14 #[.val (.int p1), .unset] [(.int (32 : Int32))]))
      exact retGI X0 hx Bd.notSynchronized Bd.returns (hb hby d7_14) ⟨by first | (simp only [f7, if_neg hc2, if_pos hc23]; done) | rfl | (simp [f7, if_neg hc2, if_pos hc23]; done), N0, e0⟩ (by decide) (by decide)
    · refine Go.step (fun t k => XS.ifYes X0.here hx rfl (pc0 := 5) (pc' := 13) rfl (hb hby d7_5) rfl ((if0 _ _).trans (feq hc23).2) (by decide) (by decide) k) ?_
      show Go p e below _ (s₁.setTop (mkF m 13 #[.val (.int p1), .unset] []))
      refine Go.step (fun t k => XS.iconst X0.here hx rfl (hb hby d7_13)  k) ?_
      show Go p e below _ (s₁.setTop (mkF m 14 #[.val (.int p1), .unset] [(.int (0 : Int32))]))
      exact retGI X0 hx Bd.notSynchronized Bd.returns (hb hby d7_14) ⟨by first | (simp only [f7, if_neg hc2, if_neg hc23]; done) | rfl | (simp [f7, if_neg hc2, if_neg hc23]; done), N0, e0⟩ (by decide) (by decide)
theorem d6_0 : decode jdk_35_method_48_code 0 = .ok (.lload_n 0, 1) := by decide +kernel
theorem d6_1 : decode jdk_35_method_48_code 1 = .ok (.bipush 32, 2) := by decide +kernel
theorem d6_3 : decode jdk_35_method_48_code 3 = .ok (.lushr, 1) := by decide +kernel
theorem d6_4 : decode jdk_35_method_48_code 4 = .ok (.l2i, 1) := by decide +kernel
theorem d6_5 : decode jdk_35_method_48_code 5 = .ok (.istore_n 2, 1) := by decide +kernel
theorem d6_6 : decode jdk_35_method_48_code 6 = .ok (.iload_n 2, 1) := by decide +kernel
theorem d6_7 : decode jdk_35_method_48_code 7 = .ok (.ifCond .ne 14, 3) := by decide +kernel
theorem d6_10 : decode jdk_35_method_48_code 10 = .ok (.bipush 32, 2) := by decide +kernel
theorem d6_12 : decode jdk_35_method_48_code 12 = .ok (.lload_n 0, 1) := by decide +kernel
theorem d6_13 : decode jdk_35_method_48_code 13 = .ok (.l2i, 1) := by decide +kernel
theorem d6_14 : decode jdk_35_method_48_code 14 = .ok (.invokestatic 308, 3) := by decide +kernel
theorem pd_0 : parseMethodDescriptor "(I)I" = some ⟨[.int], some .int⟩ := by decide +kernel
theorem d6_17 : decode jdk_35_method_48_code 17 = .ok (.iadd, 1) := by decide +kernel
theorem d6_18 : decode jdk_35_method_48_code 18 = .ok (.goto 7, 3) := by decide +kernel
theorem d6_25 : decode jdk_35_method_48_code 25 = .ok (.ireturn, 1) := by decide +kernel
theorem d6_21 : decode jdk_35_method_48_code 21 = .ok (.iload_n 2, 1) := by decide +kernel
theorem d6_22 : decode jdk_35_method_48_code 22 = .ok (.invokestatic 308, 3) := by decide +kernel
theorem ef_6 (m : MethodId) (q1 : Int64) : entryFrame m #[(.long q1)] 3 = mkF m 0 #[.val (.long q1), .second, .unset] [] := by first | (simp [entryFrame, mkF, argsToLocals, Value.category]; done) | rfl
theorem pn_2 : plainName "java/lang/Long" = true := by first | (simp [plainName, overriddenIn]; done) | decide +kernel
def f6 (q1 : Int64) : Int32 := (if (((q1.toUInt64 >>> ((32 : Int32) &&& 0x3f).toInt64.toUInt64).toInt64).toInt32) = (0 : Int32) then ((32 : Int32) + (f7 (q1.toInt32))) else (f7 (((q1.toUInt64 >>> ((32 : Int32) &&& 0x3f).toInt64.toUInt64).toInt64).toInt32)))
set_option maxRecDepth 65536 in
set_option maxHeartbeats 40000000 in
theorem rm6 (l : Launch) (Z : State) (a0 : Array Value) (hw : ∀ d ∈ tables_1, d.before a0 Z = true) (ws : List Jvm.Cond) (q1 : Int64) (h0 : Heap) (n0 : Nat) (Z0 : n0 ≤ h0.size) :
    MetFree l (⟨"java/lang/Long", "numberOfLeadingZeros", "(J)I"⟩ : MethodName) (head1 (Jvm.Cond.code (⟨"java/lang/Long", "numberOfLeadingZeros", "(J)I"⟩ : MethodName) jdk_35_method_48_code 3 (some .int) :: ws) ({ frames := 1, cells := 0, slots := 0, locals := 14 } : Room)) (fun a U => a = #[(.long q1)] ∧ Z.Warmed39 U.vm ∧ U.heap = h0) (fun _ _ _ _ _ => True) (fun _ U o U' => ∃ v L, o = .returned v ∧ QP (.int (f6 q1)) h0 n0 v U'.heap L ∧ FrameEnd U o U' L ({ frames := 1, cells := 0, slots := 0, locals := 14 } : Room).cells ({ frames := 1, cells := 0, slots := 0, locals := 14 } : Room).slots) := by
  refine MetFree.of_bodySF (plainFor_of_name pn_2) hisR ?_
  intro p e s m args below meth c s₁ Bd hml0 hP hK
  obtain ⟨rfl, hZ, hh⟩ := hP
  have hx := Bd.exec
  have hby := Bd.bytes
  have hml : c.maxLocals = 3 := hml0
  have hown : s.vm.findClass "java/lang/Long" = some m.cls := findClass_of_methodNamed Bd.named
  have hnm := (name_of_methodNamed Bd.named Bd.method).1
  have X0 : Stand p l e ({ frames := 1, cells := 0, slots := 0, locals := 14 } : Room) s m #[(.long q1)] below meth c s₁ [] 0 0 := Stand.of_body Bd
  have e0 : s₁.heap = h0 := by rw [← hh, Bd.state]; rfl
  have N0 := Fr.nil n0
  refine Go.done (Go.step (fun t k => castTop (ef_6 m q1) k) ?_)
  have KK0 : Keep h0 h0 [] := Keep.refl _ _
  show Go p e below _ (s₁.setTop (mkF m 0 #[.val (.long q1), .second, .unset] []))
  refine Go.step (fun t k => XS.lloadN X0.here hx rfl (hb hby d6_0) rfl k) ?_
  show Go p e below _ (s₁.setTop (mkF m 1 #[.val (.long q1), .second, .unset] [(.long q1)]))
  refine Go.step (fun t k => XS.bipush X0.here hx rfl (hb hby d6_1)  k) ?_
  show Go p e below _ (s₁.setTop (mkF m 3 #[.val (.long q1), .second, .unset] [(.int (32 : Int32)), (.long q1)]))
  refine Go.step (fun t k => XS.lushr X0.here hx rfl (hb hby d6_3) rfl k) ?_
  show Go p e below _ (s₁.setTop (mkF m 4 #[.val (.long q1), .second, .unset] [(.long ((q1.toUInt64 >>> ((32 : Int32) &&& 0x3f).toInt64.toUInt64).toInt64))]))
  refine Go.step (fun t k => XS.l2i X0.here hx rfl (hb hby d6_4) rfl k) ?_
  show Go p e below _ (s₁.setTop (mkF m 5 #[.val (.long q1), .second, .unset] [(.int (((q1.toUInt64 >>> ((32 : Int32) &&& 0x3f).toInt64.toUInt64).toInt64).toInt32))]))
  obtain ⟨v2, hv2⟩ : ∃ z : Int32, z = (((q1.toUInt64 >>> ((32 : Int32) &&& 0x3f).toInt64.toUInt64).toInt64).toInt32) := ⟨_, rfl⟩
  rw [← hv2]
  show Go p e below _ (s₁.setTop (mkF m 5 #[.val (.long q1), .second, .unset] [(.int v2)]))
  refine Go.step (fun t k => XS.istoreN X0.here hx rfl (hb hby d6_5) rfl (l' := #[.val (.long q1), .second, .val (.int v2)]) rfl k) ?_
  show Go p e below _ (s₁.setTop (mkF m 6 #[.val (.long q1), .second, .val (.int v2)] []))
  refine Go.step (fun t k => XS.iloadN X0.here hx rfl (hb hby d6_6) rfl k) ?_
  show Go p e below _ (s₁.setTop (mkF m 7 #[.val (.long q1), .second, .val (.int v2)] [(.int v2)]))
  by_cases hc3 : v2 = (0 : Int32)
  · refine Go.step (fun t k => XS.ifNo X0.here hx rfl (hb hby d6_7) rfl ((if0 _ _).trans (teq hc3).2) k) ?_
    show Go p e below _ (s₁.setTop (mkF m 10 #[.val (.long q1), .second, .val (.int v2)] []))
    refine Go.step (fun t k => XS.bipush X0.here hx rfl (hb hby d6_10)  k) ?_
    show Go p e below _ (s₁.setTop (mkF m 12 #[.val (.long q1), .second, .val (.int v2)] [(.int (32 : Int32))]))
    refine Go.step (fun t k => XS.lloadN X0.here hx rfl (hb hby d6_12) rfl k) ?_
    show Go p e below _ (s₁.setTop (mkF m 13 #[.val (.long q1), .second, .val (.int v2)] [(.long q1), (.int (32 : Int32))]))
    refine Go.step (fun t k => XS.l2i X0.here hx rfl (hb hby d6_13) rfl k) ?_
    show Go p e below _ (s₁.setTop (mkF m 14 #[.val (.long q1), .second, .val (.int v2)] [(.int (q1.toInt32)), (.int (32 : Int32))]))
    obtain ⟨_, _, ⟨T4, L4, k4, n4⟩, -, X4, ⟨Lc4, hQ4, l4, y4, z4⟩, st4⟩ := Jvm.LawKit.callS X0 hx (y := (⟨"java/lang/Integer", "numberOfLeadingZeros", "(I)I"⟩ : MethodName)) hown (mvT hZ (hw _ (List.mem_of_getElem? (i := 31) rfl))) (mvT hZ (hw _ (List.mem_of_getElem? (i := 32) rfl))) (mvT hZ (hw _ (List.mem_of_getElem? (i := 33) rfl))) (mvT hZ (hw _ (List.mem_of_getElem? (i := 34) rfl))) (by decide) (backOf (W := 1) (rm7 l Z a0 hw [] (q1.toInt32) h0 n0 Z0) hZ (hw _ (List.mem_of_getElem? (i := 34) rfl)) (hw _ (List.mem_of_getElem? (i := 33) rfl)) (by decide) (by decide)) (g := (mkF m 14 #[.val (.long q1), .second, .val (.int v2)] [(.int (q1.toInt32)), (.int (32 : Int32))])) rfl (by rw [hml]; rfl) (argsL := [(.int (q1.toInt32))]) (rest := [(.int (32 : Int32))]) (lenOf pd_0 rfl) rfl (by show 2 * 0 + _ ≤ _; exact Nat.le_of_eq rfl) (hb hby d6_14) (fun _ _ => ⟨rfl, e0, (by decide : 0 + 0 ≤ _), (by decide : 0 + 0 ≤ _)⟩)
    dsimp only [Pt.U, Pt.locs, Pt.cells, Pt.slots] at X4 l4 y4 z4 st4 hQ4
    subst l4 y4 z4
    obtain ⟨rfl, N4q, e4⟩ := hQ4
    have N4 := Fr.app N0 N4q
    refine Go.step st4 ?_
    show Go p e below _ (T4.setTop (mkF m 17 #[.val (.long q1), .second, .val (.int v2)] [(.int (f7 (q1.toInt32))), (.int (32 : Int32))]))
    refine Go.step (fun t k => XS.iadd X4.here hx rfl (hb hby d6_17) rfl k) ?_
    show Go p e below _ (T4.setTop (mkF m 18 #[.val (.long q1), .second, .val (.int v2)] [(.int ((32 : Int32) + (f7 (q1.toInt32))))]))
    refine Go.step (fun t k => XS.goto X4.here hx rfl (pc0 := 18) (pc' := 25) rfl (hb hby d6_18) (by decide) (by decide) k) ?_
    show Go p e below _ (T4.setTop (mkF m 25 #[.val (.long q1), .second, .val (.int v2)] [(.int ((32 : Int32) + (f7 (q1.toInt32))))]))
    subst hv2
    exact retGI X4 hx Bd.notSynchronized Bd.returns (hb hby d6_25) ⟨by first | (simp only [f6, if_pos hc3]; done) | rfl | (simp [f6, if_pos hc3]; done), N4, e4⟩ (by decide) (by decide)
  · refine Go.step (fun t k => XS.ifYes X0.here hx rfl (pc0 := 7) (pc' := 21) rfl (hb hby d6_7) rfl ((if0 _ _).trans (feq hc3).2) (by decide) (by decide) k) ?_
    show Go p e below _ (s₁.setTop (mkF m 21 #[.val (.long q1), .second, .val (.int v2)] []))
    refine Go.step (fun t k => XS.iloadN X0.here hx rfl (hb hby d6_21) rfl k) ?_
    show Go p e below _ (s₁.setTop (mkF m 22 #[.val (.long q1), .second, .val (.int v2)] [(.int v2)]))
    obtain ⟨_, _, ⟨T5, L5, k5, n5⟩, -, X5, ⟨Lc5, hQ5, l5, y5, z5⟩, st5⟩ := Jvm.LawKit.callS X0 hx (y := (⟨"java/lang/Integer", "numberOfLeadingZeros", "(I)I"⟩ : MethodName)) hown (mvT hZ (hw _ (List.mem_of_getElem? (i := 31) rfl))) (mvT hZ (hw _ (List.mem_of_getElem? (i := 32) rfl))) (mvT hZ (hw _ (List.mem_of_getElem? (i := 33) rfl))) (mvT hZ (hw _ (List.mem_of_getElem? (i := 34) rfl))) (by decide) (backOf (W := 0) (rm7 l Z a0 hw [] v2 h0 n0 Z0) hZ (hw _ (List.mem_of_getElem? (i := 34) rfl)) (hw _ (List.mem_of_getElem? (i := 33) rfl)) (by decide) (by decide)) (g := (mkF m 22 #[.val (.long q1), .second, .val (.int v2)] [(.int v2)])) rfl (by rw [hml]; rfl) (argsL := [(.int v2)]) (rest := []) (lenOf pd_0 rfl) rfl (by show 2 * 0 + _ ≤ _; exact Nat.le_of_eq rfl) (hb hby d6_22) (fun _ _ => ⟨rfl, e0, (by decide : 0 + 0 ≤ _), (by decide : 0 + 0 ≤ _)⟩)
    dsimp only [Pt.U, Pt.locs, Pt.cells, Pt.slots] at X5 l5 y5 z5 st5 hQ5
    subst l5 y5 z5
    obtain ⟨rfl, N5q, e5⟩ := hQ5
    have N5 := Fr.app N0 N5q
    refine Go.step st5 ?_
    show Go p e below _ (T5.setTop (mkF m 25 #[.val (.long q1), .second, .val (.int v2)] [(.int (f7 v2))]))
    subst hv2
    exact retGI X5 hx Bd.notSynchronized Bd.returns (hb hby d6_25) ⟨by first | (simp only [f6, if_neg hc3]; done) | rfl | (simp [f6, if_neg hc3]; done), N5, e5⟩ (by decide) (by decide)
theorem d8_0 : decode jdk_29_method_65_code 0 = .ok (.iload_n 0, 1) := by decide +kernel
theorem d8_1 : decode jdk_29_method_65_code 1 = .ok (.iload_n 1, 1) := by decide +kernel
theorem d8_2 : decode jdk_29_method_65_code 2 = .ok (.if_icmp .lt 7, 3) := by decide +kernel
theorem d8_9 : decode jdk_29_method_65_code 9 = .ok (.iload_n 1, 1) := by decide +kernel
theorem d8_10 : decode jdk_29_method_65_code 10 = .ok (.ireturn, 1) := by decide +kernel
theorem d8_5 : decode jdk_29_method_65_code 5 = .ok (.iload_n 0, 1) := by decide +kernel
theorem d8_6 : decode jdk_29_method_65_code 6 = .ok (.goto 4, 3) := by decide +kernel
theorem ef_8 (m : MethodId) (p1 : Int32) (p2 : Int32) : entryFrame m #[(.int p1), (.int p2)] 2 = mkF m 0 #[.val (.int p1), .val (.int p2)] [] := by first | (simp [entryFrame, mkF, argsToLocals, Value.category]; done) | rfl
def f8 (p1 : Int32) (p2 : Int32) : Int32 := (if p1 < p2 then p2 else p1)
set_option maxRecDepth 65536 in
set_option maxHeartbeats 40000000 in
theorem rm8 (l : Launch) (Z : State) (a0 : Array Value) (hw : ∀ d ∈ tables_1, d.before a0 Z = true) (ws : List Jvm.Cond) (p1 : Int32) (p2 : Int32) (h0 : Heap) (n0 : Nat) (Z0 : n0 ≤ h0.size) :
    MetFree l (⟨"java/lang/Math", "max", "(II)I"⟩ : MethodName) (head1 (Jvm.Cond.code (⟨"java/lang/Math", "max", "(II)I"⟩ : MethodName) jdk_29_method_65_code 2 (some .int) :: ws) ({ frames := 0, cells := 0, slots := 0, locals := 0 } : Room)) (fun a U => a = #[(.int p1), (.int p2)] ∧ Z.Warmed39 U.vm ∧ U.heap = h0) (fun _ _ _ _ _ => True) (fun _ U o U' => ∃ v L, o = .returned v ∧ QP (.int (f8 p1 p2)) h0 n0 v U'.heap L ∧ FrameEnd U o U' L ({ frames := 0, cells := 0, slots := 0, locals := 0 } : Room).cells ({ frames := 0, cells := 0, slots := 0, locals := 0 } : Room).slots) := by
  refine MetFree.of_bodySF (Jvm.Free.JP.mathPlain rfl (by decide +kernel)) hisR ?_
  intro p e s m args below meth c s₁ Bd hml0 hP hK
  obtain ⟨rfl, hZ, hh⟩ := hP
  have hx := Bd.exec
  have hby := Bd.bytes
  have hml : c.maxLocals = 2 := hml0
  have hown : s.vm.findClass "java/lang/Math" = some m.cls := findClass_of_methodNamed Bd.named
  have hnm := (name_of_methodNamed Bd.named Bd.method).1
  have X0 : Stand p l e ({ frames := 0, cells := 0, slots := 0, locals := 0 } : Room) s m #[(.int p1), (.int p2)] below meth c s₁ [] 0 0 := Stand.of_body Bd
  have e0 : s₁.heap = h0 := by rw [← hh, Bd.state]; rfl
  have N0 := Fr.nil n0
  refine Go.done (Go.step (fun t k => castTop (ef_8 m p1 p2) k) ?_)
  have KK0 : Keep h0 h0 [] := Keep.refl _ _
  show Go p e below _ (s₁.setTop (mkF m 0 #[.val (.int p1), .val (.int p2)] []))
  refine Go.step (fun t k => XS.iloadN X0.here hx rfl (hb hby d8_0) rfl k) ?_
  show Go p e below _ (s₁.setTop (mkF m 1 #[.val (.int p1), .val (.int p2)] [(.int p1)]))
  refine Go.step (fun t k => XS.iloadN X0.here hx rfl (hb hby d8_1) rfl k) ?_
  show Go p e below _ (s₁.setTop (mkF m 2 #[.val (.int p1), .val (.int p2)] [(.int p2), (.int p1)]))
  by_cases hc3 : p1 < p2
  · refine Go.step (fun t k => XS.icmpYes X0.here hx rfl (pc0 := 2) (pc' := 9) rfl (hb hby d8_2) rfl (tlt hc3).1 (by decide) (by decide) k) ?_
    show Go p e below _ (s₁.setTop (mkF m 9 #[.val (.int p1), .val (.int p2)] []))
    refine Go.step (fun t k => XS.iloadN X0.here hx rfl (hb hby d8_9) rfl k) ?_
    show Go p e below _ (s₁.setTop (mkF m 10 #[.val (.int p1), .val (.int p2)] [(.int p2)]))
    exact retGI X0 hx Bd.notSynchronized Bd.returns (hb hby d8_10) ⟨by first | (simp only [f8, if_pos hc3]; done) | rfl | (simp [f8, if_pos hc3]; done), N0, e0⟩ (by decide) (by decide)
  · refine Go.step (fun t k => XS.icmpNo X0.here hx rfl (hb hby d8_2) rfl (flt hc3).1 k) ?_
    show Go p e below _ (s₁.setTop (mkF m 5 #[.val (.int p1), .val (.int p2)] []))
    refine Go.step (fun t k => XS.iloadN X0.here hx rfl (hb hby d8_5) rfl k) ?_
    show Go p e below _ (s₁.setTop (mkF m 6 #[.val (.int p1), .val (.int p2)] [(.int p1)]))
    refine Go.step (fun t k => XS.goto X0.here hx rfl (pc0 := 6) (pc' := 10) rfl (hb hby d8_6) (by decide) (by decide) k) ?_
    show Go p e below _ (s₁.setTop (mkF m 10 #[.val (.int p1), .val (.int p2)] [(.int p1)]))
    exact retGI X0 hx Bd.notSynchronized Bd.returns (hb hby d8_10) ⟨by first | (simp only [f8, if_neg hc3]; done) | rfl | (simp [f8, if_neg hc3]; done), N0, e0⟩ (by decide) (by decide)
theorem d5_0 : decode prog_13_method_25_code 0 = .ok (.iconst 1, 1) := by decide +kernel
theorem d5_1 : decode prog_13_method_25_code 1 = .ok (.bipush 64, 2) := by decide +kernel
theorem d5_3 : decode prog_13_method_25_code 3 = .ok (.lload_n 0, 1) := by decide +kernel
theorem d5_4 : decode prog_13_method_25_code 4 = .ok (.invokestatic 124, 3) := by decide +kernel
theorem pd_1 : parseMethodDescriptor "(J)I" = some ⟨[.long], some .int⟩ := by decide +kernel
theorem d5_7 : decode prog_13_method_25_code 7 = .ok (.isub, 1) := by decide +kernel
theorem d5_8 : decode prog_13_method_25_code 8 = .ok (.bipush 6, 2) := by decide +kernel
theorem d5_10 : decode prog_13_method_25_code 10 = .ok (.iadd, 1) := by decide +kernel
theorem d5_11 : decode prog_13_method_25_code 11 = .ok (.bipush 7, 2) := by decide +kernel
theorem d5_13 : decode prog_13_method_25_code 13 = .ok (.idiv, 1) := by decide +kernel
theorem d5_14 : decode prog_13_method_25_code 14 = .ok (.invokestatic 127, 3) := by decide +kernel
theorem pd_2 : parseMethodDescriptor "(II)I" = some ⟨[.int, .int], some .int⟩ := by decide +kernel
theorem d5_17 : decode prog_13_method_25_code 17 = .ok (.ireturn, 1) := by decide +kernel
theorem ef_5 (m : MethodId) (q1 : Int64) : entryFrame m #[(.long q1)] 2 = mkF m 0 #[.val (.long q1), .second] [] := by first | (simp [entryFrame, mkF, argsToLocals, Value.category]; done) | rfl
def f5 (q1 : Int64) : Int32 := (f8 (1 : Int32) ((((64 : Int32) - (f6 q1)) + (6 : Int32)) / (7 : Int32)))
set_option maxRecDepth 65536 in
set_option maxHeartbeats 40000000 in
theorem rm5 (l : Launch) (Z : State) (a0 : Array Value) (hw : ∀ d ∈ tables_1, d.before a0 Z = true) (ws : List Jvm.Cond) (q1 : Int64) (h0 : Heap) (n0 : Nat) (Z0 : n0 ≤ h0.size) :
    MetFree l (⟨"com/example/tinwire/tinwire/codec/ByteOutput", "varintLength", "(J)I"⟩ : MethodName) (head1 (Jvm.Cond.code (⟨"com/example/tinwire/tinwire/codec/ByteOutput", "varintLength", "(J)I"⟩ : MethodName) prog_13_method_25_code 2 (some .int) :: ws) ({ frames := 2, cells := 0, slots := 0, locals := 30 } : Room)) (fun a U => a = #[(.long q1)] ∧ Z.Warmed39 U.vm ∧ U.heap = h0) (fun _ _ _ _ _ => True) (fun _ U o U' => ∃ v L, o = .returned v ∧ QP (.int (f5 q1)) h0 n0 v U'.heap L ∧ FrameEnd U o U' L ({ frames := 2, cells := 0, slots := 0, locals := 30 } : Room).cells ({ frames := 2, cells := 0, slots := 0, locals := 30 } : Room).slots) := by
  refine MetFree.of_bodySF (plainFor_of_name pn_0) hisR ?_
  intro p e s m args below meth c s₁ Bd hml0 hP hK
  obtain ⟨rfl, hZ, hh⟩ := hP
  have hx := Bd.exec
  have hby := Bd.bytes
  have hml : c.maxLocals = 2 := hml0
  have hown : s.vm.findClass "com/example/tinwire/tinwire/codec/ByteOutput" = some m.cls := findClass_of_methodNamed Bd.named
  have hnm := (name_of_methodNamed Bd.named Bd.method).1
  have X0 : Stand p l e ({ frames := 2, cells := 0, slots := 0, locals := 30 } : Room) s m #[(.long q1)] below meth c s₁ [] 0 0 := Stand.of_body Bd
  have e0 : s₁.heap = h0 := by rw [← hh, Bd.state]; rfl
  have N0 := Fr.nil n0
  refine Go.done (Go.step (fun t k => castTop (ef_5 m q1) k) ?_)
  have KK0 : Keep h0 h0 [] := Keep.refl _ _
  show Go p e below _ (s₁.setTop (mkF m 0 #[.val (.long q1), .second] []))
  refine Go.step (fun t k => XS.iconst X0.here hx rfl (hb hby d5_0)  k) ?_
  show Go p e below _ (s₁.setTop (mkF m 1 #[.val (.long q1), .second] [(.int (1 : Int32))]))
  refine Go.step (fun t k => XS.bipush X0.here hx rfl (hb hby d5_1)  k) ?_
  show Go p e below _ (s₁.setTop (mkF m 3 #[.val (.long q1), .second] [(.int (64 : Int32)), (.int (1 : Int32))]))
  refine Go.step (fun t k => XS.lloadN X0.here hx rfl (hb hby d5_3) rfl k) ?_
  show Go p e below _ (s₁.setTop (mkF m 4 #[.val (.long q1), .second] [(.long q1), (.int (64 : Int32)), (.int (1 : Int32))]))
  obtain ⟨_, _, ⟨T2, L2, k2, n2⟩, -, X2, ⟨Lc2, hQ2, l2, y2, z2⟩, st2⟩ := Jvm.LawKit.callS X0 hx (y := (⟨"java/lang/Long", "numberOfLeadingZeros", "(J)I"⟩ : MethodName)) hown (mvT hZ (hw _ (List.mem_of_getElem? (i := 27) rfl))) (mvT hZ (hw _ (List.mem_of_getElem? (i := 28) rfl))) (mvT hZ (hw _ (List.mem_of_getElem? (i := 29) rfl))) (mvT hZ (hw _ (List.mem_of_getElem? (i := 30) rfl))) (by decide) (backOf (W := 2) (rm6 l Z a0 hw [] q1 h0 n0 Z0) hZ (hw _ (List.mem_of_getElem? (i := 30) rfl)) (hw _ (List.mem_of_getElem? (i := 29) rfl)) (by decide) (by decide)) (g := (mkF m 4 #[.val (.long q1), .second] [(.long q1), (.int (64 : Int32)), (.int (1 : Int32))])) rfl (by rw [hml]; rfl) (argsL := [(.long q1)]) (rest := [(.int (64 : Int32)), (.int (1 : Int32))]) (lenOf pd_1 rfl) rfl (by show 2 * 0 + _ ≤ _; exact Nat.le_of_eq rfl) (hb hby d5_4) (fun _ _ => ⟨rfl, e0, (by decide : 0 + 0 ≤ _), (by decide : 0 + 0 ≤ _)⟩)
  dsimp only [Pt.U, Pt.locs, Pt.cells, Pt.slots] at X2 l2 y2 z2 st2 hQ2
  subst l2 y2 z2
  obtain ⟨rfl, N2q, e2⟩ := hQ2
  have N2 := Fr.app N0 N2q
  refine Go.step st2 ?_
  show Go p e below _ (T2.setTop (mkF m 7 #[.val (.long q1), .second] [(.int (f6 q1)), (.int (64 : Int32)), (.int (1 : Int32))]))
  refine Go.step (fun t k => XS.isub X2.here hx rfl (hb hby d5_7) rfl k) ?_
  show Go p e below _ (T2.setTop (mkF m 8 #[.val (.long q1), .second] [(.int ((64 : Int32) - (f6 q1))), (.int (1 : Int32))]))
  refine Go.step (fun t k => XS.bipush X2.here hx rfl (hb hby d5_8)  k) ?_
  show Go p e below _ (T2.setTop (mkF m 10 #[.val (.long q1), .second] [(.int (6 : Int32)), (.int ((64 : Int32) - (f6 q1))), (.int (1 : Int32))]))
  refine Go.step (fun t k => XS.iadd X2.here hx rfl (hb hby d5_10) rfl k) ?_
  show Go p e below _ (T2.setTop (mkF m 11 #[.val (.long q1), .second] [(.int (((64 : Int32) - (f6 q1)) + (6 : Int32))), (.int (1 : Int32))]))
  refine Go.step (fun t k => XS.bipush X2.here hx rfl (hb hby d5_11)  k) ?_
  show Go p e below _ (T2.setTop (mkF m 13 #[.val (.long q1), .second] [(.int (7 : Int32)), (.int (((64 : Int32) - (f6 q1)) + (6 : Int32))), (.int (1 : Int32))]))
  refine Go.step (fun t k => XS.idiv X2.here hx rfl (hb hby d5_13) rfl (by decide) k) ?_
  show Go p e below _ (T2.setTop (mkF m 14 #[.val (.long q1), .second] [(.int ((((64 : Int32) - (f6 q1)) + (6 : Int32)) / (7 : Int32))), (.int (1 : Int32))]))
  obtain ⟨_, _, ⟨T3, L3, k3, n3⟩, -, X3, ⟨Lc3, hQ3, l3, y3, z3⟩, st3⟩ := Jvm.LawKit.callS X2 hx (y := (⟨"java/lang/Math", "max", "(II)I"⟩ : MethodName)) hown (mvT hZ (hw _ (List.mem_of_getElem? (i := 36) rfl))) (mvT hZ (hw _ (List.mem_of_getElem? (i := 37) rfl))) (mvT hZ (hw _ (List.mem_of_getElem? (i := 38) rfl))) (mvT hZ (hw _ (List.mem_of_getElem? (i := 39) rfl))) (by decide) (backOf (W := 0) (rm8 l Z a0 hw [] (1 : Int32) ((((64 : Int32) - (f6 q1)) + (6 : Int32)) / (7 : Int32)) h0 n0 Z0) hZ (hw _ (List.mem_of_getElem? (i := 39) rfl)) (hw _ (List.mem_of_getElem? (i := 38) rfl)) (by decide) (by decide)) (g := (mkF m 14 #[.val (.long q1), .second] [(.int ((((64 : Int32) - (f6 q1)) + (6 : Int32)) / (7 : Int32))), (.int (1 : Int32))])) rfl (by rw [hml]; rfl) (argsL := [(.int (1 : Int32)), (.int ((((64 : Int32) - (f6 q1)) + (6 : Int32)) / (7 : Int32)))]) (rest := []) (lenOf pd_2 rfl) rfl (by show 2 * 0 + _ ≤ _; exact Nat.le_of_eq rfl) (hb hby d5_14) (fun _ _ => ⟨rfl, e2, (by decide : 0 + 0 ≤ _), (by decide : 0 + 0 ≤ _)⟩)
  dsimp only [Pt.U, Pt.locs, Pt.cells, Pt.slots] at X3 l3 y3 z3 st3 hQ3
  subst l3 y3 z3
  obtain ⟨rfl, N3q, e3⟩ := hQ3
  have N3 := Fr.app N2 N3q
  refine Go.step st3 ?_
  show Go p e below _ (T3.setTop (mkF m 17 #[.val (.long q1), .second] [(.int (f8 (1 : Int32) ((((64 : Int32) - (f6 q1)) + (6 : Int32)) / (7 : Int32))))]))
  exact retGI X3 hx Bd.notSynchronized Bd.returns (hb hby d5_17) ⟨by first | rfl | (simp only [f5]; done) | (simp [f5]; done), N3, e3⟩ (by decide) (by decide)
theorem d9_0 : decode prog_13_method_27_code 0 = .ok (.aload_n 0, 1) := by decide +kernel
theorem d9_1 : decode prog_13_method_27_code 1 = .ok (.getfield 31, 3) := by decide +kernel
theorem d9_4 : decode prog_13_method_27_code 4 = .ok (.i2l, 1) := by decide +kernel
theorem d9_5 : decode prog_13_method_27_code 5 = .ok (.lload_n 1, 1) := by decide +kernel
theorem d9_6 : decode prog_13_method_27_code 6 = .ok (.ladd, 1) := by decide +kernel
theorem d9_7 : decode prog_13_method_27_code 7 = .ok (.aload_n 0, 1) := by decide +kernel
theorem d9_8 : decode prog_13_method_27_code 8 = .ok (.getfield 11, 3) := by decide +kernel
theorem d9_11 : decode prog_13_method_27_code 11 = .ok (.arraylength, 1) := by decide +kernel
theorem d9_12 : decode prog_13_method_27_code 12 = .ok (.i2l, 1) := by decide +kernel
theorem d9_13 : decode prog_13_method_27_code 13 = .ok (.lcmp, 1) := by decide +kernel
theorem d9_14 : decode prog_13_method_27_code 14 = .ok (.ifCond .le 14, 3) := by decide +kernel
theorem d9_28 : decode prog_13_method_27_code 28 = .ok (.return_, 1) := by decide +kernel
theorem ef_9 (m : MethodId) (a1 : Addr) (q2 : Int64) : entryFrame m #[(.ref a1), (.long q2)] 3 = mkF m 0 #[.val (.ref a1), .val (.long q2), .second] [] := by first | (simp [entryFrame, mkF, argsToLocals, Value.category]; done) | rfl
set_option maxRecDepth 65536 in
set_option maxHeartbeats 40000000 in
theorem rm9 (l : Launch) (Z : State) (a0 : Array Value) (hw : ∀ d ∈ tables_1, d.before a0 Z = true) (ws : List Jvm.Cond) (a1 : Addr) (q2 : Int64) (w_size_a1 : Int32) (o_bytes_a1 : Addr) (g_o : Nat → Int32) (h0 : Heap) (n0 : Nat) (Z0 : n0 ≤ h0.size) (F_size_a1 : Fld Z h0 a1 "com/example/tinwire/tinwire/codec/ByteOutput" "size" "I" (.int w_size_a1)) (F_bytes_a1 : Fld Z h0 a1 "com/example/tinwire/tinwire/codec/ByteOutput" "bytes" "[B" (.ref o_bytes_a1)) (A_o_bytes_a1 : Ary Z h0 o_bytes_a1 .byte 256 (fun i => .int (g_o i))) (hp14 : ¬ ((256 : Int64) < ((w_size_a1.toInt64) + q2))) :
    MetFree l (⟨"com/example/tinwire/tinwire/codec/ByteOutput", "ensureRoom", "(J)V"⟩ : MethodName) (head1 (Jvm.Cond.code (⟨"com/example/tinwire/tinwire/codec/ByteOutput", "ensureRoom", "(J)V"⟩ : MethodName) prog_13_method_27_code 3 none :: ws) ({ frames := 0, cells := 0, slots := 0, locals := 0 } : Room)) (fun a U => a = #[(.ref a1), (.long q2)] ∧ Z.Warmed39 U.vm ∧ U.heap = h0) (fun _ _ _ _ _ => True) (fun _ U o U' => ∃ v L, o = .returned v ∧ QV h0 n0 v U'.heap L ∧ FrameEnd U o U' L ({ frames := 0, cells := 0, slots := 0, locals := 0 } : Room).cells ({ frames := 0, cells := 0, slots := 0, locals := 0 } : Room).slots) := by
  refine MetFree.of_bodySF (plainFor_of_name pn_0) hisR ?_
  intro p e s m args below meth c s₁ Bd hml0 hP hK
  obtain ⟨rfl, hZ, hh⟩ := hP
  have hx := Bd.exec
  have hby := Bd.bytes
  have hml : c.maxLocals = 3 := hml0
  have hown : s.vm.findClass "com/example/tinwire/tinwire/codec/ByteOutput" = some m.cls := findClass_of_methodNamed Bd.named
  have hnm := (name_of_methodNamed Bd.named Bd.method).1
  have X0 : Stand p l e ({ frames := 0, cells := 0, slots := 0, locals := 0 } : Room) s m #[(.ref a1), (.long q2)] below meth c s₁ [] 0 0 := Stand.of_body Bd
  have e0 : s₁.heap = h0 := by rw [← hh, Bd.state]; rfl
  have N0 := Fr.nil n0
  refine Go.done (Go.step (fun t k => castTop (ef_9 m a1 q2) k) ?_)
  have KK0 : Keep h0 h0 [] := Keep.refl _ _
  show Go p e below _ (s₁.setTop (mkF m 0 #[.val (.ref a1), .val (.long q2), .second] []))
  refine Go.step (fun t k => XS.aloadN X0.here hx rfl (hb hby d9_0) rfl rfl k) ?_
  show Go p e below _ (s₁.setTop (mkF m 1 #[.val (.ref a1), .val (.long q2), .second] [(.ref a1)]))
  obtain ⟨T3, X3, e3, st3⟩ := getF X0 hx hZ hown (host := "") (Or.inl (hw _ (List.mem_of_getElem? (i := 17) rfl))) Via.refl e0 F_size_a1 (g := (mkF m 1 #[.val (.ref a1), .val (.long q2), .second] [(.ref a1)])) rfl rfl (hb hby d9_1)
  refine Go.step st3 ?_
  show Go p e below _ (T3.setTop (mkF m 4 #[.val (.ref a1), .val (.long q2), .second] [(.int w_size_a1)]))
  refine Go.step (fun t k => XS.i2l X3.here hx rfl (hb hby d9_4) rfl k) ?_
  show Go p e below _ (T3.setTop (mkF m 5 #[.val (.ref a1), .val (.long q2), .second] [(.long (w_size_a1.toInt64))]))
  refine Go.step (fun t k => XS.lloadN X3.here hx rfl (hb hby d9_5) rfl k) ?_
  show Go p e below _ (T3.setTop (mkF m 6 #[.val (.ref a1), .val (.long q2), .second] [(.long q2), (.long (w_size_a1.toInt64))]))
  refine Go.step (fun t k => XS.ladd X3.here hx rfl (hb hby d9_6) rfl k) ?_
  show Go p e below _ (T3.setTop (mkF m 7 #[.val (.ref a1), .val (.long q2), .second] [(.long ((w_size_a1.toInt64) + q2))]))
  refine Go.step (fun t k => XS.aloadN X3.here hx rfl (hb hby d9_7) rfl rfl k) ?_
  show Go p e below _ (T3.setTop (mkF m 8 #[.val (.ref a1), .val (.long q2), .second] [(.ref a1), (.long ((w_size_a1.toInt64) + q2))]))
  obtain ⟨T4, X4, e4, st4⟩ := getF X3 hx hZ hown (host := "") (Or.inl (hw _ (List.mem_of_getElem? (i := 10) rfl))) Via.refl e3 F_bytes_a1 (g := (mkF m 8 #[.val (.ref a1), .val (.long q2), .second] [(.ref a1), (.long ((w_size_a1.toInt64) + q2))])) rfl rfl (hb hby d9_8)
  refine Go.step st4 ?_
  show Go p e below _ (T4.setTop (mkF m 11 #[.val (.ref a1), .val (.long q2), .second] [(.ref o_bytes_a1), (.long ((w_size_a1.toInt64) + q2))]))
  refine Go.step (lenA X4 hx hZ e4 A_o_bytes_a1 (g := (mkF m 11 #[.val (.ref a1), .val (.long q2), .second] [(.ref o_bytes_a1), (.long ((w_size_a1.toInt64) + q2))])) rfl rfl (hb hby d9_11)) ?_
  show Go p e below _ (T4.setTop (mkF m 12 #[.val (.ref a1), .val (.long q2), .second] [(.int (256 : Int32)), (.long ((w_size_a1.toInt64) + q2))]))
  refine Go.step (fun t k => XS.i2l X4.here hx rfl (hb hby d9_12) rfl k) ?_
  show Go p e below _ (T4.setTop (mkF m 13 #[.val (.ref a1), .val (.long q2), .second] [(.long (256 : Int64)), (.long ((w_size_a1.toInt64) + q2))]))
  refine Go.step (fun t k => XS.lcmp X4.here hx rfl (hb hby d9_13) rfl k) ?_
  show Go p e below _ (T4.setTop (mkF m 14 #[.val (.ref a1), .val (.long q2), .second] [(.int (lcmpW ((w_size_a1.toInt64) + q2) (256 : Int64)))]))
  refine Go.step (fun t k => XS.ifYes X4.here hx rfl (pc0 := 14) (pc' := 28) rfl (hb hby d9_14) rfl ((if0 _ _).trans (flt (fun q => hp14 ((lw_gt _ _).mp q))).2.2.2) (by decide) (by decide) k) ?_
  show Go p e below _ (T4.setTop (mkF m 28 #[.val (.ref a1), .val (.long q2), .second] []))
  exact retGV X4 hx Bd.notSynchronized Bd.returns (hb hby d9_28) ⟨rfl, N0, e4⟩ (by decide) (by decide)
theorem d11_0 : decode prog_13_method_8_code 0 = .ok (.aload_n 0, 1) := by decide +kernel
theorem d11_1 : decode prog_13_method_8_code 1 = .ok (.lconst 1, 1) := by decide +kernel
theorem d11_2 : decode prog_13_method_8_code 2 = .ok (.invokevirtual 58, 3) := by decide +kernel
theorem pd_3 : parseMethodDescriptor "(J)V" = some ⟨[.long], none⟩ := by decide +kernel
theorem d11_5 : decode prog_13_method_8_code 5 = .ok (.aload_n 0, 1) := by decide +kernel
theorem d11_6 : decode prog_13_method_8_code 6 = .ok (.getfield 11, 3) := by decide +kernel
theorem d11_9 : decode prog_13_method_8_code 9 = .ok (.aload_n 0, 1) := by decide +kernel
theorem d11_10 : decode prog_13_method_8_code 10 = .ok (.dup, 1) := by decide +kernel
theorem d11_11 : decode prog_13_method_8_code 11 = .ok (.getfield 31, 3) := by decide +kernel
theorem d11_14 : decode prog_13_method_8_code 14 = .ok (.dup_x1, 1) := by decide +kernel
theorem d11_15 : decode prog_13_method_8_code 15 = .ok (.iconst 1, 1) := by decide +kernel
theorem d11_16 : decode prog_13_method_8_code 16 = .ok (.iadd, 1) := by decide +kernel
theorem d11_17 : decode prog_13_method_8_code 17 = .ok (.putfield 31, 3) := by decide +kernel
theorem d11_20 : decode prog_13_method_8_code 20 = .ok (.iload_n 1, 1) := by decide +kernel
theorem d11_21 : decode prog_13_method_8_code 21 = .ok (.i2b, 1) := by decide +kernel
theorem d11_22 : decode prog_13_method_8_code 22 = .ok (.bastore, 1) := by decide +kernel
theorem d11_23 : decode prog_13_method_8_code 23 = .ok (.return_, 1) := by decide +kernel
theorem ef_11 (m : MethodId) (a1 : Addr) (p2 : Int32) : entryFrame m #[(.ref a1), (.int p2)] 2 = mkF m 0 #[.val (.ref a1), .val (.int p2)] [] := by first | (simp [entryFrame, mkF, argsToLocals, Value.category]; done) | rfl
def Q11 (Z : State) (a1 : Addr) (p2 : Int32) (w_size_a1 : Int32) (o_bytes_a1 : Addr) (g_o : Nat → Int32) (h0 : Heap) (n0 : Nat) (v : Option Value) (h : Heap) (L : List Loc) : Prop := v = none ∧ Fr n0 L ∧ Keep h0 h [a1, o_bytes_a1] ∧ Fld Z h a1 "com/example/tinwire/tinwire/codec/ByteOutput" "size" "I" (.int (w_size_a1 + (1 : Int32))) ∧ Fld Z h a1 "com/example/tinwire/tinwire/codec/ByteOutput" "bytes" "[B" (.ref o_bytes_a1) ∧ Exa Z h a1 "com/example/tinwire/tinwire/codec/ByteOutput" ∧ Ary Z h o_bytes_a1 .byte 256 (fun i => .int ((upA g_o w_size_a1.toNatClampNeg (nar .byte (p2.toInt8.toInt32))) i))
set_option maxRecDepth 65536 in
set_option maxHeartbeats 40000000 in
theorem rm11 (l : Launch) (Z : State) (a0 : Array Value) (hw : ∀ d ∈ tables_1, d.before a0 Z = true) (ws : List Jvm.Cond) (a1 : Addr) (p2 : Int32) (w_size_a1 : Int32) (o_bytes_a1 : Addr) (g_o : Nat → Int32) (h0 : Heap) (n0 : Nat) (Z0 : n0 ≤ h0.size) (F_size_a1 : Fld Z h0 a1 "com/example/tinwire/tinwire/codec/ByteOutput" "size" "I" (.int w_size_a1)) (F_bytes_a1 : Fld Z h0 a1 "com/example/tinwire/tinwire/codec/ByteOutput" "bytes" "[B" (.ref o_bytes_a1)) (A_o_bytes_a1 : Ary Z h0 o_bytes_a1 .byte 256 (fun i => .int (g_o i))) (hp2_hp14 : ¬ ((256 : Int64) < ((w_size_a1.toInt64) + (1 : Int64)))) (E_a1 : Exa Z h0 a1 "com/example/tinwire/tinwire/codec/ByteOutput") (g_a1 : n0 ≤ a1) (hne_o_bytes_a1_a1 : o_bytes_a1 ≠ a1) (g_o_bytes_a1 : n0 ≤ o_bytes_a1) (hb22 : ¬ w_size_a1 < 0) (hbb22 : w_size_a1.toNatClampNeg < 256) (hne_a1_o_bytes_a1 : a1 ≠ o_bytes_a1) :
    MetFree l (⟨"com/example/tinwire/tinwire/codec/ByteOutput", "writeByte", "(I)V"⟩ : MethodName) (head1 (Jvm.Cond.code (⟨"com/example/tinwire/tinwire/codec/ByteOutput", "writeByte", "(I)V"⟩ : MethodName) prog_13_method_8_code 2 none :: ws) ({ frames := 1, cells := 0, slots := 0, locals := 14 } : Room)) (fun a U => a = #[(.ref a1), (.int p2)] ∧ Z.Warmed39 U.vm ∧ U.heap = h0) (fun _ _ _ _ _ => True) (fun _ U o U' => ∃ v L, o = .returned v ∧ Q11 Z a1 p2 w_size_a1 o_bytes_a1 g_o h0 n0 v U'.heap L ∧ FrameEnd U o U' L ({ frames := 1, cells := 0, slots := 0, locals := 14 } : Room).cells ({ frames := 1, cells := 0, slots := 0, locals := 14 } : Room).slots) := by
  refine MetFree.of_bodySF (plainFor_of_name pn_0) hisR ?_
  intro p e s m args below meth c s₁ Bd hml0 hP hK
  obtain ⟨rfl, hZ, hh⟩ := hP
  have hx := Bd.exec
  have hby := Bd.bytes
  have hml : c.maxLocals = 2 := hml0
  have hown : s.vm.findClass "com/example/tinwire/tinwire/codec/ByteOutput" = some m.cls := findClass_of_methodNamed Bd.named
  have hnm := (name_of_methodNamed Bd.named Bd.method).1
  have X0 : Stand p l e ({ frames := 1, cells := 0, slots := 0, locals := 14 } : Room) s m #[(.ref a1), (.int p2)] below meth c s₁ [] 0 0 := Stand.of_body Bd
  have e0 : s₁.heap = h0 := by rw [← hh, Bd.state]; rfl
  have N0 := Fr.nil n0
  refine Go.done (Go.step (fun t k => castTop (ef_11 m a1 p2) k) ?_)
  have KK0 : Keep h0 h0 [a1, o_bytes_a1] := Keep.refl _ _
  show Go p e below _ (s₁.setTop (mkF m 0 #[.val (.ref a1), .val (.int p2)] []))
  refine Go.step (fun t k => XS.aloadN X0.here hx rfl (hb hby d11_0) rfl rfl k) ?_
  show Go p e below _ (s₁.setTop (mkF m 1 #[.val (.ref a1), .val (.int p2)] [(.ref a1)]))
  refine Go.step (fun t k => XS.lconst X0.here hx rfl (hb hby d11_1)  k) ?_
  show Go p e below _ (s₁.setTop (mkF m 2 #[.val (.ref a1), .val (.int p2)] [(.long (1 : Int64)), (.ref a1)]))
  obtain ⟨cq3, q3, q3'⟩ := E_a1.cell
  obtain ⟨_, _, ⟨T3, L3, k3, n3⟩, -, X3, ⟨Lc3, hQ3, l3, y3, z3⟩, st3⟩ := X0.privateBack hx (y := (⟨"com/example/tinwire/tinwire/codec/ByteOutput", "ensureRoom", "(J)V"⟩ : MethodName)) hown (mvT hZ (hw _ (List.mem_of_getElem? (i := 40) rfl))) (mvT hZ (hw _ (List.mem_of_getElem? (i := 41) rfl))) (selP (mvT hZ (hw _ (List.mem_of_getElem? (i := 15) rfl))) rfl (Cond.privateMethod_at (mvP hZ (hw _ (List.mem_of_getElem? (i := 42) rfl)) (args := #[]))) (mvT hZ (hw _ (List.mem_of_getElem? (i := 41) rfl))) (by decide)) (Cond.privateMethod_at (mvP hZ (hw _ (List.mem_of_getElem? (i := 42) rfl)) (args := #[]))) (mvT hZ (hw _ (List.mem_of_getElem? (i := 43) rfl))) (by decide) (backOf (W := 0) (rm9 l Z a0 hw [] a1 (1 : Int64) w_size_a1 o_bytes_a1 g_o h0 n0 Z0 F_size_a1 F_bytes_a1 A_o_bytes_a1 hp2_hp14) hZ (hw _ (List.mem_of_getElem? (i := 43) rfl)) (hw _ (List.mem_of_getElem? (i := 2) rfl)) (by decide) (by decide)) (g := (mkF m 2 #[.val (.ref a1), .val (.int p2)] [(.long (1 : Int64)), (.ref a1)])) rfl (by rw [hml]; rfl) (Steps.refl _) (a := a1) (by rw [e0]; exact q3) q3' (argsL := [(.long (1 : Int64))]) (rest := []) (lenOf pd_3 rfl) rfl (by show 2 * 0 + _ ≤ _; exact Nat.le_of_eq rfl) (hb hby d11_2) (fun _ _ => ⟨rfl, e0, (by decide : 0 + 0 ≤ _), (by decide : 0 + 0 ≤ _)⟩)
  dsimp only [Pt.U, Pt.locs, Pt.cells, Pt.slots] at X3 l3 y3 z3 st3 hQ3
  subst l3 y3 z3
  obtain ⟨rfl, N3q, e3⟩ := hQ3
  have N3 := Fr.app N0 N3q
  refine Go.trans st3 ?_
  show Go p e below _ (T3.setTop (mkF m 5 #[.val (.ref a1), .val (.int p2)] []))
  refine Go.step (fun t k => XS.aloadN X3.here hx rfl (hb hby d11_5) rfl rfl k) ?_
  show Go p e below _ (T3.setTop (mkF m 6 #[.val (.ref a1), .val (.int p2)] [(.ref a1)]))
  obtain ⟨T4, X4, e4, st4⟩ := getF X3 hx hZ hown (host := "") (Or.inl (hw _ (List.mem_of_getElem? (i := 10) rfl))) Via.refl e3 F_bytes_a1 (g := (mkF m 6 #[.val (.ref a1), .val (.int p2)] [(.ref a1)])) rfl rfl (hb hby d11_6)
  refine Go.step st4 ?_
  show Go p e below _ (T4.setTop (mkF m 9 #[.val (.ref a1), .val (.int p2)] [(.ref o_bytes_a1)]))
  refine Go.step (fun t k => XS.aloadN X4.here hx rfl (hb hby d11_9) rfl rfl k) ?_
  show Go p e below _ (T4.setTop (mkF m 10 #[.val (.ref a1), .val (.int p2)] [(.ref a1), (.ref o_bytes_a1)]))
  refine Go.step (fun t k => XS.dup X4.here hx rfl (hb hby d11_10) rfl rfl k) ?_
  show Go p e below _ (T4.setTop (mkF m 11 #[.val (.ref a1), .val (.int p2)] [(.ref a1), (.ref a1), (.ref o_bytes_a1)]))
  obtain ⟨T5, X5, e5, st5⟩ := getF X4 hx hZ hown (host := "") (Or.inl (hw _ (List.mem_of_getElem? (i := 17) rfl))) Via.refl e4 F_size_a1 (g := (mkF m 11 #[.val (.ref a1), .val (.int p2)] [(.ref a1), (.ref a1), (.ref o_bytes_a1)])) rfl rfl (hb hby d11_11)
  refine Go.step st5 ?_
  show Go p e below _ (T5.setTop (mkF m 14 #[.val (.ref a1), .val (.int p2)] [(.int w_size_a1), (.ref a1), (.ref o_bytes_a1)]))
  refine Go.step (fun t k => XS.dupX1 X5.here hx rfl (hb hby d11_14) rfl rfl rfl k) ?_
  show Go p e below _ (T5.setTop (mkF m 15 #[.val (.ref a1), .val (.int p2)] [(.int w_size_a1), (.ref a1), (.int w_size_a1), (.ref o_bytes_a1)]))
  refine Go.step (fun t k => XS.iconst X5.here hx rfl (hb hby d11_15)  k) ?_
  show Go p e below _ (T5.setTop (mkF m 16 #[.val (.ref a1), .val (.int p2)] [(.int (1 : Int32)), (.int w_size_a1), (.ref a1), (.int w_size_a1), (.ref o_bytes_a1)]))
  refine Go.step (fun t k => XS.iadd X5.here hx rfl (hb hby d11_16) rfl k) ?_
  show Go p e below _ (T5.setTop (mkF m 17 #[.val (.ref a1), .val (.int p2)] [(.int (w_size_a1 + (1 : Int32))), (.ref a1), (.int w_size_a1), (.ref o_bytes_a1)]))
  obtain ⟨T6, h6, X6, e6, W6, st6⟩ := putF X5 hx hZ hown (host := "") (Or.inl (hw _ (List.mem_of_getElem? (i := 17) rfl))) Via.refl e5 F_size_a1 E_a1 (Or.inl (hw _ (List.mem_of_getElem? (i := 18) rfl))) (hw _ (List.mem_of_getElem? (i := 1) rfl)) (ty := .int) (by decide) rfl rfl (g := (mkF m 17 #[.val (.ref a1), .val (.int p2)] [(.int (w_size_a1 + (1 : Int32))), (.ref a1), (.int w_size_a1), (.ref o_bytes_a1)])) rfl rfl (hb hby d11_17)
  refine Go.step st6 ?_
  have N6 := Fr.snoc X6 N3 g_a1
  have F_bytes_a1_6 := F_bytes_a1.other W6 (Or.inr (slot_ne (Or.inl (hw _ (List.mem_of_getElem? (i := 11) rfl))) (Or.inl (hw _ (List.mem_of_getElem? (i := 18) rfl))) (by decide) (t := (.array .byte)) (t' := .int) (by decide) (by decide)))
  have A_o_bytes_a1_6 := A_o_bytes_a1.other W6 hne_o_bytes_a1_a1
  have E_a1_6 := E_a1.wr W6
  have Z6 := Nat.le_trans Z0 (Keep.of_wr W6).1
  have KK6 : Keep h0 h6 [a1, o_bytes_a1] := KK0.wr W6 (Or.inl (by simp))
  have F_size_a1_6 := F_size_a1.same W6
  show Go p e below _ (T6.setTop (mkF m 20 #[.val (.ref a1), .val (.int p2)] [(.int w_size_a1), (.ref o_bytes_a1)]))
  refine Go.step (fun t k => XS.iloadN X6.here hx rfl (hb hby d11_20) rfl k) ?_
  show Go p e below _ (T6.setTop (mkF m 21 #[.val (.ref a1), .val (.int p2)] [(.int p2), (.int w_size_a1), (.ref o_bytes_a1)]))
  refine Go.step (fun t k => XS.i2b X6.here hx rfl (hb hby d11_21) rfl k) ?_
  show Go p e below _ (T6.setTop (mkF m 22 #[.val (.ref a1), .val (.int p2)] [(.int (p2.toInt8.toInt32)), (.int w_size_a1), (.ref o_bytes_a1)]))
  obtain ⟨cl7, Ar7, in7, -⟩ := A_o_bytes_a1_6.hin (j := w_size_a1) hb22 hbb22
  obtain ⟨T7, h7, X7, e7, W7, st7⟩ := stB X6 hx hZ e6 Ar7 in7 (g := (mkF m 22 #[.val (.ref a1), .val (.int p2)] [(.int (p2.toInt8.toInt32)), (.int w_size_a1), (.ref o_bytes_a1)])) rfl rfl (hb hby d11_22)
  refine Go.step st7 ?_
  have N7 := Fr.snoc X7 N6 g_o_bytes_a1
  have F_size_a1_7 := F_size_a1_6.other W7 (Or.inl hne_a1_o_bytes_a1)
  have F_bytes_a1_7 := F_bytes_a1_6.other W7 (Or.inl hne_a1_o_bytes_a1)
  have E_a1_7 := E_a1_6.wr W7
  have Z7 := Nat.le_trans Z6 (Keep.of_wr W7).1
  have KK7 : Keep h0 h7 [a1, o_bytes_a1] := KK6.wr W7 (Or.inl (by simp))
  have A_o_bytes_a1_7 : Ary Z h7 o_bytes_a1 .byte 256 (fun i => .int ((upA g_o w_size_a1.toNatClampNeg (nar .byte (p2.toInt8.toInt32))) i)) := A_o_bytes_a1_6.setI W7 hbb22
  show Go p e below _ (T7.setTop (mkF m 23 #[.val (.ref a1), .val (.int p2)] []))
  refine retGV X7 hx Bd.notSynchronized Bd.returns (hb hby d11_23) ?_ (by decide) (by decide)
  show Q11 Z a1 p2 w_size_a1 o_bytes_a1 g_o h0 n0 _ T7.heap _
  rw [e7]
  exact ⟨rfl, N7, KK7, F_size_a1_7, F_bytes_a1_7, E_a1_7, A_o_bytes_a1_7⟩
def shI (k : Int32) (x : Int32) : Int32 := ((x.toUInt32 >>> (k &&& 31).toUInt32).toInt32)
def sgX (B k : Int32) (x : Int32) : Int32 := if x < B then x else shI k x
def sgN (B d : Int32) (x n : Int32) : Int32 := if x < B then n else n + d
theorem f7_eq (p : Int32) : f7 p = (if (0 : Int32) < p then (sgN 4 (-2) (sgX 16 4 (sgX 256 8 (sgX 65536 16 p))) (sgN 16 (-4) (sgX 256 8 (sgX 65536 16 p)) (sgN 256 (-8) (sgX 65536 16 p) (if p < (65536 : Int32) then (31 : Int32) else (15 : Int32))))) - (shI 1 (sgX 4 2 (sgX 16 4 (sgX 256 8 (sgX 65536 16 p))))) else (if p = (0 : Int32) then (32 : Int32) else (0 : Int32))) := rfl
theorem shI_int (k : Int32) (x : Int32) (n : Nat) (hk : k.toBitVec.toNat % 32 = n) (h0 : 0 < n) (hx : 0 ≤ x.toInt) : (shI k x).toInt = x.toInt / (2 ^ n : Nat) := by
  have := c_iushr x k n hk h0
  unfold shI; rw [this]
  have r := rng32 x
  rw [Int.emod_eq_of_lt hx (by omega)]
theorem stg (B k d : Int32) (kn : Nat) (hB : B.toInt = (2 ^ kn : Nat)) (hk : k.toBitVec.toNat % 32 = kn) (h0 : 0 < kn) (hd : d.toInt = -kn) (x n : Int32) (P : Int) (s : Nat) (hx : 1 ≤ x.toInt) (hm : x.toInt < (2 ^ (kn + kn) : Nat)) (h1 : (2 ^ s : Nat) * x.toInt ≤ P) (h2 : P < (2 ^ s : Nat) * (x.toInt + 1)) (hn : n.toInt = 31 - s) (hs : s + kn ≤ 31) :
    ∃ s', s' ≤ s + kn ∧ 1 ≤ (sgX B k x).toInt ∧ (sgX B k x).toInt < (2 ^ kn : Nat) ∧ (2 ^ s' : Nat) * (sgX B k x).toInt ≤ P ∧ P < (2 ^ s' : Nat) * ((sgX B k x).toInt + 1) ∧ (sgN B d x n).toInt = 31 - s' := by
  unfold sgX sgN
  by_cases c : x < B
  · rw [if_pos c, if_pos c]
    rw [Int32.lt_iff_toInt_lt, hB] at c
    exact ⟨s, by omega, hx, c, h1, h2, hn⟩
  · rw [if_neg c, if_neg c]
    rw [Int32.lt_iff_toInt_lt, hB] at c
    have e := shI_int k x kn hk h0 (by omega)
    have en : (n + d).toInt = 31 - (s + kn : Nat) := by rw [addI] <;> rw [hn, hd] <;> omega
    have p2 : ((2 ^ (s + kn) : Nat) : Int) = (2 ^ s : Nat) * (2 ^ kn : Nat) := by rw [Nat.pow_add]; simp
    have q2 : ((2 ^ (kn + kn) : Nat) : Int) = (2 ^ kn : Nat) * (2 ^ kn : Nat) := by rw [Nat.pow_add]; simp
    have pos : 0 < ((2 ^ kn : Nat) : Int) := by have := Nat.pow_pos (a := 2) (n := kn) (by decide); omega
    have pos2 : 0 < ((2 ^ s : Nat) : Int) := by have := Nat.pow_pos (a := 2) (n := s) (by decide); omega
    refine ⟨s + kn, Nat.le_refl _, ?_, ?_, ?_, ?_, en⟩
    · rw [e]; exact (Int.le_ediv_iff_mul_le pos).mpr (by omega)
    · rw [e]; exact (Int.ediv_lt_iff_lt_mul pos).mpr (by rw [← q2]; exact hm)
    · rw [e, p2, Int.mul_assoc]
      have : ((2 ^ kn : Nat) : Int) * (x.toInt / (2 ^ kn : Nat)) ≤ x.toInt := Int.mul_ediv_self_le (by omega)
      exact Int.le_trans (Int.mul_le_mul_of_nonneg_left this (by omega)) h1
    · rw [e, p2, Int.mul_assoc]
      have : x.toInt + 1 ≤ ((2 ^ kn : Nat) : Int) * (x.toInt / (2 ^ kn : Nat) + 1) := Int.lt_mul_ediv_self_add pos |> fun h => by rw [Int.mul_add, Int.mul_one]; exact h
      exact Int.lt_of_lt_of_le h2 (Int.mul_le_mul_of_nonneg_left this (by omega))
theorem f7_pos (p : Int32) (h : 0 < p.toInt) : ∃ e : Nat, e ≤ 30 ∧ (f7 p).toInt = 31 - e ∧ (2 ^ e : Nat) ≤ p.toInt ∧ p.toInt < (2 ^ (e + 1) : Nat) := by
  rw [f7_eq, if_pos (by rw [Int32.lt_iff_toInt_lt]; exact h)]
  have r := rng32 p
  have e0 : (if p < (65536 : Int32) then (31 : Int32) else (15 : Int32)) = sgN 65536 (-16) p 31 := rfl
  rw [e0]
  obtain ⟨s1, a1, a2, a3, a4, a5, a6⟩ := stg 65536 16 (-16) 16 (by decide) (by decide) (by decide) (by decide) p 31 p.toInt 0 (by omega) (by simp only [Nat.reduceAdd, Nat.reducePow]; omega) (by simp) (by simp; omega) (by decide) (by decide)
  generalize sgX 65536 16 p = x1 at *
  generalize sgN 65536 (-16) p 31 = n1 at *
  obtain ⟨s2, b1, b2, b3, b4, b5, b6⟩ := stg 256 8 (-8) 8 (by decide) (by decide) (by decide) (by decide) x1 n1 p.toInt s1 a2 a3 a4 a5 a6 (by omega)
  generalize sgX 256 8 x1 = x2 at *
  generalize sgN 256 (-8) x1 n1 = n2 at *
  obtain ⟨s3, c1, c2, c3, c4, c5, c6⟩ := stg 16 4 (-4) 4 (by decide) (by decide) (by decide) (by decide) x2 n2 p.toInt s2 b2 b3 b4 b5 b6 (by omega)
  generalize sgX 16 4 x2 = x3 at *
  generalize sgN 16 (-4) x2 n2 = n3 at *
  obtain ⟨s4, d1, d2, d3, d4, d5, d6⟩ := stg 4 2 (-2) 2 (by decide) (by decide) (by decide) (by decide) x3 n3 p.toInt s3 c2 c3 c4 c5 c6 (by omega)
  generalize sgX 4 2 x3 = x4 at *
  generalize sgN 4 (-2) x3 n3 = n4 at *
  have k := shI_int 1 x4 1 (by decide) (by decide) (by omega)
  have d3' : x4.toInt < 4 := d3
  have s4b : s4 ≤ 30 := by omega
  have k' : (shI 1 x4).toInt = x4.toInt / 2 := k
  have rs : (n4 - shI 1 x4).toInt = n4.toInt - (shI 1 x4).toInt := by rw [subI] <;> omega
  have pos2 : 0 < ((2 ^ s4 : Nat) : Int) := by have := Nat.pow_pos (a := 2) (n := s4) (by decide); omega
  have pw : ((2 ^ (s4 + 1) : Nat) : Int) = 2 * (2 ^ s4 : Nat) := by rw [Nat.pow_succ]; omega
  have pw2 : ((2 ^ (s4 + 1 + 1) : Nat) : Int) = 4 * (2 ^ s4 : Nat) := by rw [Nat.pow_succ, Nat.pow_succ]; omega
  generalize ((2 ^ s4 : Nat) : Int) = Q at *
  by_cases q : x4.toInt < 2
  · have x1' : x4.toInt = 1 := by omega
    rw [x1'] at d4 d5
    refine ⟨s4, by omega, by rw [rs, k', d6, x1']; omega, by omega, by omega⟩
  · have hs : s4 ≤ 29 := by
      rcases Nat.lt_or_ge s4 30 with hh | hh
      · omega
      · have : s4 = 30 := by omega
        subst this
        exfalso
        have : Q * 2 ≤ Q * x4.toInt := Int.mul_le_mul_of_nonneg_left (by omega) (by omega)
        omega
    have y1 : Q * 2 ≤ Q * x4.toInt := Int.mul_le_mul_of_nonneg_left (by omega) (by omega)
    have y2 : Q * (x4.toInt + 1) ≤ Q * 4 := Int.mul_le_mul_of_nonneg_left (by omega) (by omega)
    refine ⟨s4 + 1, by omega, by rw [rs, k', d6]; omega, by omega, by omega⟩


theorem clamp_of {x : Int32} (h : 0 ≤ x.toInt) : (x.toNatClampNeg : Int) = x.toInt := by
  show (x.toInt.toNat : Int) = x.toInt
  omega
theorem nn_iff (x : Int32) : ¬ x < 0 ↔ 0 ≤ x.toInt := by
  rw [Int32.lt_iff_toInt_lt, show (0 : Int32).toInt = 0 by decide]; omega
def byteOf (x : Int32) : Int32 := nar .byte (x.toInt8.toInt32)
/-- what putVarint leaves in the array -/
def pvF : Nat → (Nat → Int32) → Int32 → Int64 → (Nat → Int32)
  | 0, g, ix, v => upA g ix.toNatClampNeg (byteOf v.toInt32)
  | n + 1, g, ix, v => if (v &&& (-128 : Int64)) = (0 : Int64) then upA g ix.toNatClampNeg (byteOf v.toInt32) else pvF n (upA g ix.toNatClampNeg (byteOf ((v &&& (127 : Int64)) ||| (128 : Int64)).toInt32)) (ix + (1 : Int32)) ((v.toUInt64 >>> ((7 : Int32) &&& 0x3f).toInt64.toUInt64).toInt64)
/-- what varintAt reads: j bytes below zero, then one that isn't -/
def vaR : Nat → (Nat → Int32) → Int32 → Int32 → Int64 → Int64
  | 0, g, ix, sh, r => r ||| (((g ix.toNatClampNeg) &&& (127 : Int32)).toInt64 <<< (sh &&& 0x3f).toInt64)
  | j + 1, g, ix, sh, r => vaR j g (ix + (1 : Int32)) (sh + (7 : Int32)) (r ||| (((g ix.toNatClampNeg) &&& (127 : Int32)).toInt64 <<< (sh &&& 0x3f).toInt64))
/-- the unsigned value -/
def uv (v : Int64) : Int := v.toInt % 18446744073709551616
theorem uv_shr (v : Int64) : uv ((v.toUInt64 >>> ((7 : Int32) &&& 0x3f).toInt64.toUInt64).toInt64) = uv v / 128 := by
  unfold uv
  rw [c_lushr v 7 7 (by decide) (by decide), show ((2 ^ 7 : Nat) : Int) = 128 by decide]
  omega
theorem uv_small (v : Int64) (h : uv v < 128) : (v &&& (-128 : Int64)) = (0 : Int64) := by
  have r := rng64 v
  unfold uv at h
  have hv : v.toInt % 128 = v.toInt ∧ 0 ≤ v.toInt ∧ v.toInt < 128 := by omega
  have m := c_maskL v 127 7 (by decide) (by decide)
  rw [show ((2 ^ 7 : Nat) : Int) = 128 by decide] at m
  have e : v &&& (127 : Int64) = v := Int64.toInt_inj.mp (by omega)
  rw [← e, Int64.and_assoc, show (127 : Int64) &&& (-128 : Int64) = 0 by decide]
  exact Int64.and_zero
theorem own_b0 (v : Int64) : uv v < 128 ^ (9 + 1) := by
  unfold uv; have : v.toInt % 18446744073709551616 < 18446744073709551616 := by omega
  exact Int.lt_trans this (by decide)
theorem own_fuel {fuel : Nat} {v : Int64} (hb : uv v < 128 ^ (fuel + 1)) (h : ¬ (v &&& (-128 : Int64)) = (0 : Int64)) : 0 < fuel := by
  rcases Nat.eq_zero_or_pos fuel with rfl | q
  · exact absurd (uv_small v (by simpa using hb)) h
  · exact q
theorem own_b1 {fuel : Nat} {v : Int64} (hb : uv v < 128 ^ (fuel + 1)) (hf : 0 < fuel) : uv ((v.toUInt64 >>> ((7 : Int32) &&& 0x3f).toInt64.toUInt64).toInt64) < 128 ^ (fuel - 1 + 1) := by
  rw [uv_shr, show fuel - 1 + 1 = fuel by omega]
  rw [Int.pow_succ] at hb
  generalize (128 : Int) ^ fuel = P at *
  omega
theorem own_put {fuel : Nat} {g : Nat → Int32} {ix : Int32} {v : Int64} (hf : 0 < fuel) (h : ¬ (v &&& (-128 : Int64)) = (0 : Int64)) : pvF (fuel - 1) (upA g ix.toNatClampNeg (byteOf ((v &&& (127 : Int64)) ||| (128 : Int64)).toInt32)) (ix + (1 : Int32)) ((v.toUInt64 >>> ((7 : Int32) &&& 0x3f).toInt64.toUInt64).toInt64) = pvF fuel g ix v := by
  obtain ⟨f, rfl⟩ : ∃ f, fuel = f + 1 := ⟨fuel - 1, by omega⟩
  show _ = (if _ then _ else _)
  rw [if_neg h]; rfl
theorem own_putE {fuel : Nat} {g : Nat → Int32} {ix : Int32} {v : Int64} (h : (v &&& (-128 : Int64)) = (0 : Int64)) : pvF fuel g ix v = upA g ix.toNatClampNeg (byteOf v.toInt32) := by
  cases fuel with
  | zero => rfl
  | succ n => exact if_pos h
theorem own_ix {ix : Int32} {k : Nat} (h : 0 ≤ ix.toInt ∧ ix.toInt + k < 256) : ¬ ix < 0 ∧ ix.toNatClampNeg < 256 := by
  have c := clamp_of h.1
  exact ⟨(nn_iff _).mpr h.1, by omega⟩
theorem own_ix1 {ix : Int32} {k : Nat} (h : 0 ≤ ix.toInt ∧ ix.toInt + k < 256) (hk : 0 < k) : 0 ≤ (ix + (1 : Int32)).toInt ∧ (ix + (1 : Int32)).toInt + (k - 1 : Nat) < 256 := by
  have e1 : (1 : Int32).toInt = 1 := by decide
  rw [addI] <;> rw [e1] <;> omega
theorem own_va {j : Nat} {g : Nat → Int32} {ix sh : Int32} {r : Int64} (hj : 0 < j) : vaR (j - 1) g (ix + (1 : Int32)) (sh + (7 : Int32)) (r ||| (((g ix.toNatClampNeg) &&& (127 : Int32)).toInt64 <<< (sh &&& 0x3f).toInt64)) = vaR j g ix sh r := by
  obtain ⟨f, rfl⟩ : ∃ f, j = f + 1 := ⟨j - 1, by omega⟩
  rfl
theorem own_j {j : Nat} {g : Nat → Int32} {ix : Int32} (h2 : ¬ g (ix.toNatClampNeg + j) < 0) (h : g ix.toNatClampNeg < 0) : 0 < j := by
  rcases Nat.eq_zero_or_pos j with rfl | q
  · exact absurd h h2
  · exact q
theorem own_j0 {j : Nat} {g : Nat → Int32} {ix : Int32} (h1 : ∀ i, i < j → g (ix.toNatClampNeg + i) < 0) (h : ¬ g ix.toNatClampNeg < 0) : j = 0 := by
  rcases Nat.eq_zero_or_pos j with rfl | q
  · rfl
  · exact absurd (h1 0 q) h
theorem own_nx {ix : Int32} {k : Nat} (h : 0 ≤ ix.toInt ∧ ix.toInt + k < 256) (hk : 0 < k) : (ix + (1 : Int32)).toNatClampNeg = ix.toNatClampNeg + 1 := by
  have e1 : (1 : Int32).toInt = 1 := by decide
  have e : (ix + (1 : Int32)).toInt = ix.toInt + 1 := by rw [addI] <;> rw [e1] <;> omega
  have c := clamp_of h.1
  have d := clamp_of (x := ix + (1 : Int32)) (by omega)
  omega

theorem f7_all (x : Int32) : ∃ b : Nat, b ≤ 32 ∧ (f7 x).toInt = 32 - b ∧ x.toInt % 4294967296 < (2 ^ b : Nat) ∧ (b = 0 ∨ (2 ^ (b - 1) : Nat) ≤ x.toInt % 4294967296) := by
  have r := rng32 x
  by_cases h : 0 < x.toInt
  · obtain ⟨e, h1, h2, h3, h4⟩ := f7_pos x h
    have em : x.toInt % 4294967296 = x.toInt := Int.emod_eq_of_lt (by omega) (by omega)
    exact ⟨e + 1, by omega, by omega, by rw [em]; exact h4, Or.inr (by rw [em]; exact h3)⟩
  · rw [f7_eq, if_neg (by rw [Int32.lt_iff_toInt_lt]; exact h)]
    by_cases h0 : x = 0
    · subst h0; exact ⟨0, by decide, by decide, by decide, Or.inl rfl⟩
    · rw [if_neg h0]
      have hz : x.toInt ≠ 0 := fun q => h0 (Int32.toInt_inj.mp q)
      have e1 : ((2 ^ 32 : Nat) : Int) = 4294967296 := by decide
      have e2 : ((2 ^ (32 - 1) : Nat) : Int) = 2147483648 := by decide
      exact ⟨32, by decide, by decide, by rw [e1]; omega, Or.inr (by rw [e2]; omega)⟩
theorem own_nlz (v : Int64) : ∃ bl : Nat, bl ≤ 64 ∧ (f6 v).toInt = 64 - bl ∧ uv v < (2 ^ bl : Nat) ∧ (bl = 0 ∨ (2 ^ (bl - 1) : Nat) ≤ uv v) := by
  have k1 := c_lushr v 32 32 (by decide) (by decide)
  rw [show ((2 ^ 32 : Nat) : Int) = 4294967296 by decide] at k1
  have k2 := c_l2i ((v.toUInt64 >>> ((32 : Int32) &&& 0x3f).toInt64.toUInt64).toInt64)
  have k3 := c_l2i v
  unfold f6
  have u0 : 0 ≤ uv v ∧ uv v < 18446744073709551616 := by unfold uv; omega
  have hu : uv v = v.toInt % 18446744073709551616 := rfl
  generalize ((v.toUInt64 >>> ((32 : Int32) &&& 0x3f).toInt64.toUInt64).toInt64).toInt32 = hi at *
  have hhi : hi.toInt % 4294967296 = uv v / 4294967296 := by omega
  have hlo : v.toInt32.toInt % 4294967296 = uv v % 4294967296 := by omega
  by_cases c : hi = 0
  · rw [if_pos c]
    have c0 : hi.toInt = 0 := by rw [c]; decide
    obtain ⟨b, h1, h2, h3, h4⟩ := f7_all v.toInt32
    have e32 : (32 : Int32).toInt = 32 := by decide
    have hv : uv v = v.toInt32.toInt % 4294967296 := by omega
    exact ⟨b, by omega, by rw [addI] <;> rw [e32, h2] <;> omega, by rw [hv]; exact h3, by rw [hv]; exact h4⟩
  · rw [if_neg c]
    have c0 : hi.toInt ≠ 0 := fun q => c (Int32.toInt_inj.mp q)
    have r := rng32 hi
    obtain ⟨b, h1, h2, h3, h4⟩ := f7_all hi
    have hb : b ≠ 0 := by rintro rfl; simp only [Nat.pow_zero] at h3; omega
    have p1 : ((2 ^ (32 + b) : Nat) : Int) = 4294967296 * (2 ^ b : Nat) := by rw [Nat.pow_add]; simp
    have p2 : ((2 ^ (32 + b - 1) : Nat) : Int) = 4294967296 * (2 ^ (b - 1) : Nat) := by rw [show 32 + b - 1 = 32 + (b - 1) by omega, Nat.pow_add]; simp
    refine ⟨32 + b, by omega, by omega, ?_, Or.inr ?_⟩
    · rw [p1]; omega
    · rw [p2]; rcases h4 with h4 | h4
      · exact absurd h4 hb
      · omega
theorem pow128 (k : Nat) : ((128 : Int) ^ k) = ((2 ^ (7 * k) : Nat) : Int) := by
  rw [Nat.pow_mul]; simp
theorem own_vl (v : Int64) : ∃ L : Nat, 1 ≤ L ∧ L ≤ 10 ∧ (f5 v).toInt = L ∧ uv v < 128 ^ L ∧ (L = 1 ∨ 128 ^ (L - 1) ≤ uv v) := by
  obtain ⟨bl, h1, h2, h3, h4⟩ := own_nlz v
  have e64 : (64 : Int32).toInt = 64 := by decide
  have e6 : (6 : Int32).toInt = 6 := by decide
  have a1 : ((64 : Int32) - f6 v).toInt = bl := by rw [subI] <;> rw [e64, h2] <;> omega
  have a2 : ((64 : Int32) - f6 v + (6 : Int32)).toInt = bl + 6 := by rw [addI] <;> rw [a1, e6] <;> omega
  have a3 : (((64 : Int32) - f6 v + (6 : Int32)) / (7 : Int32)).toInt = (bl + 6) / 7 := by
    rw [(c_idiv _ 7 7 (by decide) (by decide)).1 (by omega), a2]
  have e1 : (1 : Int32).toInt = 1 := by decide
  unfold f5 f8
  generalize ((64 : Int32) - f6 v + (6 : Int32)) / (7 : Int32) = t at *
  by_cases c : (1 : Int32) < t
  · rw [if_pos c]; rw [Int32.lt_iff_toInt_lt] at c
    refine ⟨(bl + 6) / 7, by omega, by omega, by omega, ?_, Or.inr ?_⟩
    · rw [pow128]
      have : (2 ^ bl : Nat) ≤ 2 ^ (7 * ((bl + 6) / 7)) := Nat.pow_le_pow_right (by decide) (by omega)
      omega
    · rw [pow128]
      rcases h4 with h4 | h4
      · omega
      · have : (2 ^ (7 * ((bl + 6) / 7 - 1)) : Nat) ≤ 2 ^ (bl - 1) := Nat.pow_le_pow_right (by decide) (by omega)
        omega
  · rw [if_neg c]; rw [Int32.lt_iff_toInt_lt] at c
    refine ⟨1, by decide, by decide, by decide, ?_, Or.inl rfl⟩
    rw [pow128]
    have : (2 ^ bl : Nat) ≤ 2 ^ (7 * 1) := Nat.pow_le_pow_right (by decide) (by omega)
    omega
theorem own_or (r x : Int64) (sh : Int32) (k : Nat) (hk : sh.toBitVec.toNat % 64 = k) (hk63 : k ≤ 63) (hr : 0 ≤ r.toInt) (hr2 : r.toInt < (2 ^ k : Nat)) (hx : 0 ≤ x.toInt) (hlt : r.toInt + x.toInt * (2 ^ k : Nat) < 18446744073709551616) :
    uv (r ||| (x <<< (sh &&& 0x3f).toInt64)) = r.toInt + x.toInt * (2 ^ k : Nat) := by
  have s := c_lshl x sh k hk
  have pq : ((2 ^ k : Nat) : Int) * (2 ^ (64 - k) : Nat) = 18446744073709551616 := by
    have : (2 ^ k * 2 ^ (64 - k) : Nat) = 2 ^ 64 := by rw [← Nat.pow_add, show k + (64 - k) = 64 by omega]
    have h2 : ((2 ^ k * 2 ^ (64 - k) : Nat) : Int) = ((2 ^ 64 : Nat) : Int) := by rw [this]
    rw [Int.natCast_mul] at h2
    rw [h2]; decide
  generalize x <<< (sh &&& 0x3f).toInt64 = a at *
  obtain ⟨t, ht⟩ : ∃ t, a.toInt = x.toInt * (2 ^ k : Nat) + 18446744073709551616 * t := ⟨(a.toInt - x.toInt * (2 ^ k : Nat)) / 18446744073709551616, by omega⟩
  have am : a.toInt % (2 ^ k : Nat) = 0 := by
    rw [ht, ← pq, Int.mul_comm x.toInt, Int.mul_assoc, ← Int.mul_add, Int.mul_emod_right]
  have o := c_orL' r a k hk63 (2 ^ k : Nat) rfl am hr hr2
  have xp : 0 ≤ x.toInt * (2 ^ k : Nat) := Int.mul_nonneg hx (by omega)
  unfold uv
  rw [ht] at o
  generalize x.toInt * ((2 ^ k : Nat) : Int) = w at *
  omega
theorem byte_int (x : Int32) : ((byteOf x).toInt - x.toInt) % 256 = 0 ∧ -128 ≤ (byteOf x).toInt ∧ (byteOf x).toInt < 128 := by
  have h1 := c_i2b x
  have h2 := c_i2b (x.toInt8.toInt32)
  have e : byteOf x = (x.toInt8.toInt32).toInt8.toInt32 := rfl
  rw [e]
  omega
theorem byte_lo {v : Int64} (h : uv v < 128) : (byteOf v.toInt32).toInt = uv v := by
  have b := byte_int v.toInt32
  have k := c_l2i v
  have r := rng64 v
  unfold uv at *
  omega
theorem byte_hi (v : Int64) : (byteOf ((v &&& (127 : Int64)) ||| (128 : Int64)).toInt32).toInt = uv v % 128 - 128 := by
  have m := c_maskL v 127 7 (by decide) (by decide)
  rw [show ((2 ^ 7 : Nat) : Int) = 128 by decide] at m
  have o := c_orL' (v &&& (127 : Int64)) 128 7 (by decide) 128 (by decide) (by decide) (by omega) (by omega)
  have e : (128 : Int64).toInt = 128 := by decide
  have r := rng64 ((v &&& (127 : Int64)) ||| (128 : Int64))
  have b := byte_int ((v &&& (127 : Int64)) ||| (128 : Int64)).toInt32
  have k := c_l2i ((v &&& (127 : Int64)) ||| (128 : Int64))
  unfold uv
  omega
theorem mask7 (b : Int32) : (b &&& (127 : Int32)).toInt64.toInt = b.toInt % 128 := by
  rw [c_i2l]; exact c_mask b 127 7 (by decide) (by decide)
theorem uv_big {v : Int64} (h : 128 ≤ uv v) : ¬ (v &&& (-128 : Int64)) = (0 : Int64) := fun q => by
  have e : v = (v &&& (127 : Int64)) ||| (v &&& (-128 : Int64)) := by
    apply Int64.toBitVec_inj.mp
    simp only [Int64.toBitVec_or, Int64.toBitVec_and]
    rw [← BitVec.and_or_distrib_left]
    rw [show (127 : Int64).toBitVec ||| (-128 : Int64).toBitVec = BitVec.allOnes 64 by decide, BitVec.and_allOnes]
  rw [q, Int64.or_zero] at e
  have m := c_maskL v 127 7 (by decide) (by decide)
  rw [show ((2 ^ 7 : Nat) : Int) = 128 by decide, ← e] at m
  unfold uv at h
  omega
theorem pow_step (L : Nat) (h : 1 ≤ L) : (128 : Int) ^ L = 128 ^ (L - 1) * 128 := by
  obtain ⟨n, rfl⟩ : ∃ n, L = n + 1 := ⟨L - 1, by omega⟩
  exact Int.pow_succ _ _
/-- what putVarint leaves behind and ahead of its bytes -/
theorem put_far : ∀ (fuel L : Nat) (g : Nat → Int32) (ix : Int32) (v : Int64), 1 ≤ L → L ≤ fuel + 1 → uv v < 128 ^ L → (L = 1 ∨ 128 ^ (L - 1) ≤ uv v) → 0 ≤ ix.toInt → ix.toInt + L ≤ 256 → ∀ k, (k < ix.toNatClampNeg ∨ ix.toNatClampNeg + L ≤ k) → pvF fuel g ix v k = g k := by
  intro fuel
  induction fuel with
  | zero =>
    intro L g ix v h1 h2 h3 h4 h5 h6 k hk
    exact upA_ne _ _ (by omega)
  | succ n ih =>
    intro L g ix v h1 h2 h3 h4 h5 h6 k hk
    show (if _ then _ else _ : Nat → Int32) k = g k
    by_cases c : L = 1
    · subst c
      rw [if_pos (uv_small v (by simpa using h3))]
      exact upA_ne _ _ (by omega)
    · have h4' : 128 ^ (L - 1) ≤ uv v := by rcases h4 with q | q; · exact absurd q c
                                            · exact q
      have big : 128 ≤ uv v := by
        have : (128 : Int) ^ 1 ≤ 128 ^ (L - 1) := by rw [pow128, pow128]; exact Int.ofNat_le.mpr (Nat.pow_le_pow_right (by decide) (by omega))
        simp only [Int.pow_succ, Int.pow_zero] at this
        omega
      rw [if_neg (uv_big big)]
      have hix := own_nx (ix := ix) (k := L - 1) ⟨h5, by omega⟩ (by omega)
      have hi1 := own_ix1 (ix := ix) (k := L - 1) ⟨h5, by omega⟩ (by omega)
      rw [ih (L - 1) _ _ _ (by omega) (by omega) ?_ ?_ hi1.1 (by omega) k (by omega)]
      · exact upA_ne _ _ (by omega)
      · rw [uv_shr]
        have := pow_step L h1
        generalize (128 : Int) ^ (L - 1) = P at *
        omega
      · by_cases c2 : L = 2
        · left; omega
        · right
          rw [uv_shr]
          have := pow_step (L - 1) (by omega)
          generalize (128 : Int) ^ (L - 1 - 1) = P at *
          omega

theorem sh_ok {sh : Int32} {m : Nat} (h : sh.toInt = 7 * m) (hm : m ≤ 9) : sh.toBitVec.toNat % 64 = 7 * m := by
  have e : sh.toInt = sh.toBitVec.toInt := rfl
  rw [e, BitVec.toInt_eq_toNat_cond] at h
  have := sh.toBitVec.isLt
  split at h <;> omega
theorem uv_nn {r : Int64} (h : uv r < 9223372036854775808) : r.toInt = uv r := by
  have := rng64 r
  unfold uv at *
  omega
theorem put_get : ∀ (fuel L m : Nat) (g G : Nat → Int32) (ix sh : Int32) (v r : Int64) (V : Int), 1 ≤ L → L ≤ fuel + 1 → L + m ≤ 10 → uv v < 128 ^ L → (L = 1 ∨ 128 ^ (L - 1) ≤ uv v) → 0 ≤ ix.toInt → ix.toInt + L ≤ 256 → sh.toInt = 7 * m → 0 ≤ r.toInt → r.toInt < (2 ^ (7 * m) : Nat) → V = r.toInt + uv v * (2 ^ (7 * m) : Nat) → V < 18446744073709551616 →
    (∀ i, i < L → G (ix.toNatClampNeg + i) = pvF fuel g ix v (ix.toNatClampNeg + i)) → (∀ i, i < L - 1 → G (ix.toNatClampNeg + i) < 0) ∧ ¬ G (ix.toNatClampNeg + (L - 1)) < 0 ∧ uv (vaR (L - 1) G ix sh r) = V := by
  intro fuel
  have one : ∀ (fuel m : Nat) (g G : Nat → Int32) (ix sh : Int32) (v r : Int64) (V : Int), m ≤ 9 → uv v < 128 → sh.toInt = 7 * m → 0 ≤ r.toInt → r.toInt < (2 ^ (7 * m) : Nat) → V = r.toInt + uv v * (2 ^ (7 * m) : Nat) → V < 18446744073709551616 → G ix.toNatClampNeg = pvF fuel g ix v ix.toNatClampNeg → ¬ G ix.toNatClampNeg < 0 ∧ uv (vaR 0 G ix sh r) = V := by
    intro fuel m g G ix sh v r V hm hv hsh r0 r1 hV hlt hG
    rw [own_putE (uv_small v hv), upA_same] at hG
    have b := byte_lo hv
    have u0 : 0 ≤ uv v := by unfold uv; omega
    have mk := mask7 (byteOf v.toInt32)
    rw [b, Int.emod_eq_of_lt u0 hv] at mk
    refine ⟨by rw [hG, nn_iff, b]; exact u0, ?_⟩
    show uv (r ||| (((G ix.toNatClampNeg) &&& (127 : Int32)).toInt64 <<< (sh &&& 0x3f).toInt64)) = V
    rw [hG, own_or r _ sh (7 * m) (sh_ok hsh hm) (by omega) r0 r1 (by rw [mk]; exact u0) (by rw [mk, ← hV]; exact hlt), mk, hV]
  induction fuel with
  | zero =>
    intro L m g G ix sh v r V h1 h2 h3 h4 h5 h6 h7 h8 h9 h10 h11 h12 h13
    have : L = 1 := by omega
    subst this
    have o := one 0 m g G ix sh v r V (by omega) (by simpa using h4) h8 h9 h10 h11 h12 (by have := h13 0 (by omega); simpa using this)
    exact ⟨fun i hi => absurd hi (by omega), o.1, o.2⟩
  | succ n ih =>
    intro L m g G ix sh v r V h1 h2 h3 h4 h5 h6 h7 h8 h9 h10 h11 h12 h13
    by_cases c : L = 1
    · subst c
      have o := one (n + 1) m g G ix sh v r V (by omega) (by simpa using h4) h8 h9 h10 h11 h12 (by have := h13 0 (by omega); simpa using this)
      exact ⟨fun i hi => absurd hi (by omega), o.1, o.2⟩
    · have h5' : 128 ^ (L - 1) ≤ uv v := by
        rcases h5 with q | q
        · exact absurd q c
        · exact q
      have big : 128 ≤ uv v := by
        have : (128 : Int) ^ 1 ≤ 128 ^ (L - 1) := by rw [pow128, pow128]; exact Int.ofNat_le.mpr (Nat.pow_le_pow_right (by decide) (by omega))
        simp only [Int.pow_succ, Int.pow_zero] at this
        omega
      have nb := uv_big big
      have hpf : ∀ k, pvF (n + 1) g ix v k = pvF n (upA g ix.toNatClampNeg (byteOf ((v &&& (127 : Int64)) ||| (128 : Int64)).toInt32)) (ix + (1 : Int32)) ((v.toUInt64 >>> ((7 : Int32) &&& 0x3f).toInt64.toUInt64).toInt64) k := fun k => by
        show (if _ then _ else _ : Nat → Int32) k = _
        rw [if_neg nb]
      have hix := own_nx (ix := ix) (k := L - 1) ⟨h6, by omega⟩ (by omega)
      have hi1 := own_ix1 (ix := ix) (k := L - 1) ⟨h6, by omega⟩ (by omega)
      have us := uv_shr v
      have q1 : uv ((v.toUInt64 >>> ((7 : Int32) &&& 0x3f).toInt64.toUInt64).toInt64) < 128 ^ (L - 1) := by
        rw [us]
        have := pow_step L h1
        generalize (128 : Int) ^ (L - 1) = P at *
        omega
      have q2 : L - 1 = 1 ∨ 128 ^ (L - 1 - 1) ≤ uv ((v.toUInt64 >>> ((7 : Int32) &&& 0x3f).toInt64.toUInt64).toInt64) := by
        by_cases c2 : L = 2
        · left; omega
        · right
          rw [us]
          have := pow_step (L - 1) (by omega)
          generalize (128 : Int) ^ (L - 1 - 1) = P at *
          omega
      have hG0 : G ix.toNatClampNeg = byteOf ((v &&& (127 : Int64)) ||| (128 : Int64)).toInt32 := by
        have := h13 0 (by omega)
        rw [Nat.add_zero, hpf, put_far n (L - 1) _ _ _ (by omega) (by omega) q1 q2 hi1.1 (by omega) _ (Or.inl (by omega)), upA_same] at this
        exact this
      have bh := byte_hi v
      have u0 : 0 ≤ uv v := by omega
      have mk := mask7 (G ix.toNatClampNeg)
      rw [hG0, bh] at mk
      have mk' : ((byteOf ((v &&& (127 : Int64)) ||| (128 : Int64)).toInt32) &&& (127 : Int32)).toInt64.toInt = uv v % 128 := by rw [mk]; omega
      have pw : ((2 ^ (7 * (m + 1)) : Nat) : Int) = 128 * (2 ^ (7 * m) : Nat) := by rw [show 7 * (m + 1) = 7 + 7 * m by omega, Nat.pow_add]; simp
      have pp : 0 < ((2 ^ (7 * m) : Nat) : Int) := by have := Nat.pow_pos (a := 2) (n := 7 * m) (by decide); omega
      have e1 : uv v * (2 ^ (7 * m) : Nat) = uv v % 128 * (2 ^ (7 * m) : Nat) + uv v / 128 * (128 * (2 ^ (7 * m) : Nat)) := by
        rw [← Int.mul_assoc, ← Int.add_mul]; congr 1; omega
      have x0 : 0 ≤ uv v / 128 * (128 * (2 ^ (7 * m) : Nat)) := Int.mul_nonneg (by omega) (by omega)
      have x1 : uv v % 128 * (2 ^ (7 * m) : Nat) ≤ 127 * (2 ^ (7 * m) : Nat) := Int.mul_le_mul_of_nonneg_right (by omega) (by omega)
      have x2 : 0 ≤ uv v % 128 * (2 ^ (7 * m) : Nat) := Int.mul_nonneg (by omega) (by omega)
      have o := own_or r (((byteOf ((v &&& (127 : Int64)) ||| (128 : Int64)).toInt32) &&& (127 : Int32)).toInt64) sh (7 * m) (sh_ok h8 (by omega)) (by omega) h9 h10 (by rw [mk']; omega) (by rw [mk']; omega)
      rw [mk'] at o
      have p63 : ((2 ^ (7 * (m + 1)) : Nat) : Int) ≤ 9223372036854775808 := by
        have : (2 ^ (7 * (m + 1)) : Nat) ≤ 2 ^ 63 := Nat.pow_le_pow_right (by decide) (by omega)
        omega
      have rn := uv_nn (r := r ||| (((byteOf ((v &&& (127 : Int64)) ||| (128 : Int64)).toInt32) &&& (127 : Int32)).toInt64 <<< (sh &&& 0x3f).toInt64)) (by rw [o]; omega)
      have e7 : (7 : Int32).toInt = 7 := by decide
      have sh7 : (sh + (7 : Int32)).toInt = 7 * (m + 1 : Nat) := by rw [addI] <;> rw [h8, e7] <;> omega
      have R := ih (L - 1) (m + 1) (upA g ix.toNatClampNeg (byteOf ((v &&& (127 : Int64)) ||| (128 : Int64)).toInt32)) G (ix + (1 : Int32)) (sh + (7 : Int32)) ((v.toUInt64 >>> ((7 : Int32) &&& 0x3f).toInt64.toUInt64).toInt64) (r ||| (((byteOf ((v &&& (127 : Int64)) ||| (128 : Int64)).toInt32) &&& (127 : Int32)).toInt64 <<< (sh &&& 0x3f).toInt64)) V
        (by omega) (by omega) (by omega) q1 q2 hi1.1 (by omega) sh7 (by rw [rn, o]; omega) (by rw [rn, o, pw]; omega) (by rw [rn, o, us, pw, h11, e1]; omega) h12
        (fun i hi => by
          rw [hix, ← hpf, Nat.add_assoc, Nat.add_comm 1 i]
          exact h13 (i + 1) (by omega))
      refine ⟨fun i hi => ?_, ?_, ?_⟩
      · rcases Nat.eq_zero_or_pos i with rfl | hi0
        · rw [Nat.add_zero, hG0, Int32.lt_iff_toInt_lt, bh, show (0 : Int32).toInt = 0 by decide]; omega
        · have := R.1 (i - 1) (by omega)
          rw [hix, Nat.add_assoc, show 1 + (i - 1) = i by omega] at this
          exact this
      · have := R.2.1
        rw [hix, Nat.add_assoc, show 1 + (L - 1 - 1) = L - 1 by omega] at this
        exact this
      · have := R.2.2
        rw [← own_va (j := L - 1) (by omega), hG0]
        exact this

theorem d10_0 : decode prog_13_method_26_code 0 = .ok (.iload_n 1, 1) := by decide +kernel
theorem d10_1 : decode prog_13_method_26_code 1 = .ok (.istore 4, 2) := by decide +kernel
theorem d10_3 : decode prog_13_method_26_code 3 = .ok (.lload_n 2, 1) := by decide +kernel
theorem d10_4 : decode prog_13_method_26_code 4 = .ok (.lstore 5, 2) := by decide +kernel
theorem d10_6 : decode prog_13_method_26_code 6 = .ok (.lload 5, 2) := by decide +kernel
theorem d10_8 : decode prog_13_method_26_code 8 = .ok (.ldc2_w 133, 3) := by decide +kernel
theorem d10_11 : decode prog_13_method_26_code 11 = .ok (.land, 1) := by decide +kernel
theorem d10_12 : decode prog_13_method_26_code 12 = .ok (.lconst 0, 1) := by decide +kernel
theorem d10_13 : decode prog_13_method_26_code 13 = .ok (.lcmp, 1) := by decide +kernel
theorem d10_14 : decode prog_13_method_26_code 14 = .ok (.ifCond .eq 35, 3) := by decide +kernel
theorem d10_49 : decode prog_13_method_26_code 49 = .ok (.aload_n 0, 1) := by decide +kernel
theorem d10_50 : decode prog_13_method_26_code 50 = .ok (.getfield 11, 3) := by decide +kernel
theorem d10_53 : decode prog_13_method_26_code 53 = .ok (.iload 4, 2) := by decide +kernel
theorem d10_55 : decode prog_13_method_26_code 55 = .ok (.lload 5, 2) := by decide +kernel
theorem d10_57 : decode prog_13_method_26_code 57 = .ok (.l2i, 1) := by decide +kernel
theorem d10_58 : decode prog_13_method_26_code 58 = .ok (.i2b, 1) := by decide +kernel
theorem d10_59 : decode prog_13_method_26_code 59 = .ok (.bastore, 1) := by decide +kernel
theorem d10_60 : decode prog_13_method_26_code 60 = .ok (.return_, 1) := by decide +kernel
theorem d10_17 : decode prog_13_method_26_code 17 = .ok (.aload_n 0, 1) := by decide +kernel
theorem d10_18 : decode prog_13_method_26_code 18 = .ok (.getfield 11, 3) := by decide +kernel
theorem d10_21 : decode prog_13_method_26_code 21 = .ok (.iload 4, 2) := by decide +kernel
theorem d10_23 : decode prog_13_method_26_code 23 = .ok (.iinc 4 1, 3) := by decide +kernel
theorem d10_26 : decode prog_13_method_26_code 26 = .ok (.lload 5, 2) := by decide +kernel
theorem d10_28 : decode prog_13_method_26_code 28 = .ok (.ldc2_w 135, 3) := by decide +kernel
theorem d10_31 : decode prog_13_method_26_code 31 = .ok (.land, 1) := by decide +kernel
theorem d10_32 : decode prog_13_method_26_code 32 = .ok (.ldc2_w 96, 3) := by decide +kernel
theorem d10_35 : decode prog_13_method_26_code 35 = .ok (.lor, 1) := by decide +kernel
theorem d10_36 : decode prog_13_method_26_code 36 = .ok (.l2i, 1) := by decide +kernel
theorem d10_37 : decode prog_13_method_26_code 37 = .ok (.i2b, 1) := by decide +kernel
theorem d10_38 : decode prog_13_method_26_code 38 = .ok (.bastore, 1) := by decide +kernel
theorem d10_39 : decode prog_13_method_26_code 39 = .ok (.lload 5, 2) := by decide +kernel
theorem d10_41 : decode prog_13_method_26_code 41 = .ok (.bipush 7, 2) := by decide +kernel
theorem d10_43 : decode prog_13_method_26_code 43 = .ok (.lushr, 1) := by decide +kernel
theorem d10_44 : decode prog_13_method_26_code 44 = .ok (.lstore 5, 2) := by decide +kernel
theorem d10_46 : decode prog_13_method_26_code 46 = .ok (.goto (-40), 3) := by decide +kernel
theorem ef_10 (m : MethodId) (a1 : Addr) (p2 : Int32) (q3 : Int64) : entryFrame m #[(.ref a1), (.int p2), (.long q3)] 7 = mkF m 0 #[.val (.ref a1), .val (.int p2), .val (.long q3), .second, .unset, .unset, .unset] [] := by first | (simp [entryFrame, mkF, argsToLocals, Value.category]; done) | rfl
def Q10 (Z : State) (a1 : Addr) (p2 : Int32) (q3 : Int64) (o_bytes_a1 : Addr) (g_o : Nat → Int32) (h0 : Heap) (n0 : Nat) (v : Option Value) (h : Heap) (L : List Loc) : Prop := v = none ∧ Fr n0 L ∧ Keep h0 h [o_bytes_a1] ∧ Ary Z h o_bytes_a1 .byte 256 (fun i => .int ((pvF 9 g_o p2 q3) i))
set_option maxRecDepth 65536 in
set_option maxHeartbeats 40000000 in
theorem rm10 (l : Launch) (Z : State) (a0 : Array Value) (hw : ∀ d ∈ tables_1, d.before a0 Z = true) (ws : List Jvm.Cond) (a1 : Addr) (p2 : Int32) (q3 : Int64) (o_bytes_a1 : Addr) (g_o : Nat → Int32) (h0 : Heap) (n0 : Nat) (Z0 : n0 ≤ h0.size) (hx0 : 0 ≤ p2.toInt ∧ p2.toInt + (9 : Nat) < 256) (F_bytes_a1 : Fld Z h0 a1 "com/example/tinwire/tinwire/codec/ByteOutput" "bytes" "[B" (.ref o_bytes_a1)) (A_o_bytes_a1 : Ary Z h0 o_bytes_a1 .byte 256 (fun i => .int (g_o i))) (g_o_bytes_a1 : n0 ≤ o_bytes_a1) (hne_a1_o_bytes_a1 : a1 ≠ o_bytes_a1) :
    MetFree l (⟨"com/example/tinwire/tinwire/codec/ByteOutput", "putVarint", "(IJ)V"⟩ : MethodName) (head1 (Jvm.Cond.code (⟨"com/example/tinwire/tinwire/codec/ByteOutput", "putVarint", "(IJ)V"⟩ : MethodName) prog_13_method_26_code 7 none :: ws) ({ frames := 0, cells := 0, slots := 0, locals := 0 } : Room)) (fun a U => a = #[(.ref a1), (.int p2), (.long q3)] ∧ Z.Warmed39 U.vm ∧ U.heap = h0) (fun _ _ _ _ _ => True) (fun _ U o U' => ∃ v L, o = .returned v ∧ Q10 Z a1 p2 q3 o_bytes_a1 g_o h0 n0 v U'.heap L ∧ FrameEnd U o U' L ({ frames := 0, cells := 0, slots := 0, locals := 0 } : Room).cells ({ frames := 0, cells := 0, slots := 0, locals := 0 } : Room).slots) := by
  refine MetFree.of_bodySF (plainFor_of_name pn_0) hisR ?_
  intro p e s m args below meth c s₁ Bd hml0 hP hK
  obtain ⟨rfl, hZ, hh⟩ := hP
  have hx := Bd.exec
  have hby := Bd.bytes
  have hml : c.maxLocals = 7 := hml0
  have hown : s.vm.findClass "com/example/tinwire/tinwire/codec/ByteOutput" = some m.cls := findClass_of_methodNamed Bd.named
  have hnm := (name_of_methodNamed Bd.named Bd.method).1
  have X0 : Stand p l e ({ frames := 0, cells := 0, slots := 0, locals := 0 } : Room) s m #[(.ref a1), (.int p2), (.long q3)] below meth c s₁ [] 0 0 := Stand.of_body Bd
  have e0 : s₁.heap = h0 := by rw [← hh, Bd.state]; rfl
  have N0 := Fr.nil n0
  refine Go.done (Go.step (fun t k => castTop (ef_10 m a1 p2 q3) k) ?_)
  have KK0 : Keep h0 h0 [o_bytes_a1] := Keep.refl _ _
  show Go p e below _ (s₁.setTop (mkF m 0 #[.val (.ref a1), .val (.int p2), .val (.long q3), .second, .unset, .unset, .unset] []))
  refine Go.step (fun t k => XS.iloadN X0.here hx rfl (hb hby d10_0) rfl k) ?_
  show Go p e below _ (s₁.setTop (mkF m 1 #[.val (.ref a1), .val (.int p2), .val (.long q3), .second, .unset, .unset, .unset] [(.int p2)]))
  refine Go.step (fun t k => XS.istore X0.here hx rfl (hb hby d10_1) rfl (l' := #[.val (.ref a1), .val (.int p2), .val (.long q3), .second, .val (.int p2), .unset, .unset]) rfl k) ?_
  show Go p e below _ (s₁.setTop (mkF m 3 #[.val (.ref a1), .val (.int p2), .val (.long q3), .second, .val (.int p2), .unset, .unset] []))
  refine Go.step (fun t k => XS.lloadN X0.here hx rfl (hb hby d10_3) rfl k) ?_
  show Go p e below _ (s₁.setTop (mkF m 4 #[.val (.ref a1), .val (.int p2), .val (.long q3), .second, .val (.int p2), .unset, .unset] [(.long q3)]))
  refine Go.step (fun t k => XS.lstore X0.here hx rfl (hb hby d10_4) rfl (l' := #[.val (.ref a1), .val (.int p2), .val (.long q3), .second, .val (.int p2), .val (.long q3), .second]) rfl k) ?_
  show Go p e below _ (s₁.setTop (mkF m 6 #[.val (.ref a1), .val (.int p2), .val (.long q3), .second, .val (.int p2), .val (.long q3), .second] []))
  have LOOP6 : ∀ (mm : Nat) (fuel : Nat) (ix : Int32) (vc : Int64) (gc : Nat → Int32) (Tl4 : State) (Ll4 : List Loc) (hl4 : Heap) (hmm : fuel = mm) (hbd : uv vc < 128 ^ (fuel + 1)) (hix : 0 ≤ ix.toInt ∧ ix.toInt + fuel < 256) (hG : pvF fuel gc ix vc = pvF 9 g_o p2 q3) (Xl4 : Stand p l e ({ frames := 0, cells := 0, slots := 0, locals := 0 } : Room) s m #[(.ref a1), (.int p2), (.long q3)] below meth c Tl4 Ll4 0 0) (Nl4 : Fr n0 Ll4) (el4 : Tl4.heap = hl4) (KKl4 : Keep h0 hl4 [o_bytes_a1]) (Zl4 : n0 ≤ hl4.size) (F_bytes_a1_l4 : Fld Z hl4 a1 "com/example/tinwire/tinwire/codec/ByteOutput" "bytes" "[B" (.ref o_bytes_a1)) (A_o_bytes_a1_l4 : Ary Z hl4 o_bytes_a1 .byte 256 (fun i => .int (gc i))), Go p e below (FinQ below s (Q10 Z a1 p2 q3 o_bytes_a1 g_o h0 n0) ({ frames := 0, cells := 0, slots := 0, locals := 0 } : Room).cells ({ frames := 0, cells := 0, slots := 0, locals := 0 } : Room).slots) (Tl4.setTop (mkF m 6 #[.val (.ref a1), .val (.int p2), .val (.long q3), .second, .val (.int ix), .val (.long vc), .second] [])) := by
    intro mm
    induction mm using Nat.strongRecOn with
    | _ mm ih =>
      intro fuel ix vc gc Tl4 Ll4 hl4 hmm hbd hix hG Xl4 Nl4 el4 KKl4 Zl4 F_bytes_a1_l4 A_o_bytes_a1_l4
      show Go p e below _ (Tl4.setTop (mkF m 6 #[.val (.ref a1), .val (.int p2), .val (.long q3), .second, .val (.int ix), .val (.long vc), .second] []))
      refine Go.step (fun t k => XS.lload Xl4.here hx rfl (hb hby d10_6) rfl k) ?_
      show Go p e below _ (Tl4.setTop (mkF m 8 #[.val (.ref a1), .val (.int p2), .val (.long q3), .second, .val (.int ix), .val (.long vc), .second] [(.long vc)]))
      refine Go.step (Xl4.ldc2Long hx hown (mvT hZ (hw _ (List.mem_of_getElem? (i := 48) rfl))) (g := (mkF m 8 #[.val (.ref a1), .val (.int p2), .val (.long q3), .second, .val (.int ix), .val (.long vc), .second] [(.long vc)])) rfl (hb hby d10_8)) ?_
      show Go p e below _ (Tl4.setTop (mkF m 11 #[.val (.ref a1), .val (.int p2), .val (.long q3), .second, .val (.int ix), .val (.long vc), .second] [(.long (-128 : Int64)), (.long vc)]))
      refine Go.step (fun t k => XS.land Xl4.here hx rfl (hb hby d10_11) rfl k) ?_
      show Go p e below _ (Tl4.setTop (mkF m 12 #[.val (.ref a1), .val (.int p2), .val (.long q3), .second, .val (.int ix), .val (.long vc), .second] [(.long (vc &&& (-128 : Int64)))]))
      refine Go.step (fun t k => XS.lconst Xl4.here hx rfl (hb hby d10_12)  k) ?_
      show Go p e below _ (Tl4.setTop (mkF m 13 #[.val (.ref a1), .val (.int p2), .val (.long q3), .second, .val (.int ix), .val (.long vc), .second] [(.long (0 : Int64)), (.long (vc &&& (-128 : Int64)))]))
      refine Go.step (fun t k => XS.lcmp Xl4.here hx rfl (hb hby d10_13) rfl k) ?_
      show Go p e below _ (Tl4.setTop (mkF m 14 #[.val (.ref a1), .val (.int p2), .val (.long q3), .second, .val (.int ix), .val (.long vc), .second] [(.int (lcmpW (vc &&& (-128 : Int64)) (0 : Int64)))]))
      by_cases hc5 : (vc &&& (-128 : Int64)) = (0 : Int64)
      · refine Go.step (fun t k => XS.ifYes Xl4.here hx rfl (pc0 := 14) (pc' := 49) rfl (hb hby d10_14) rfl ((if0 _ _).trans (teq ((lw_eq _ _).mpr hc5)).1) (by decide) (by decide) k) ?_
        show Go p e below _ (Tl4.setTop (mkF m 49 #[.val (.ref a1), .val (.int p2), .val (.long q3), .second, .val (.int ix), .val (.long vc), .second] []))
        refine Go.step (fun t k => XS.aloadN Xl4.here hx rfl (hb hby d10_49) rfl rfl k) ?_
        show Go p e below _ (Tl4.setTop (mkF m 50 #[.val (.ref a1), .val (.int p2), .val (.long q3), .second, .val (.int ix), .val (.long vc), .second] [(.ref a1)]))
        obtain ⟨T6, X6, e6, st6⟩ := getF Xl4 hx hZ hown (host := "") (Or.inl (hw _ (List.mem_of_getElem? (i := 10) rfl))) Via.refl el4 F_bytes_a1_l4 (g := (mkF m 50 #[.val (.ref a1), .val (.int p2), .val (.long q3), .second, .val (.int ix), .val (.long vc), .second] [(.ref a1)])) rfl rfl (hb hby d10_50)
        refine Go.step st6 ?_
        show Go p e below _ (T6.setTop (mkF m 53 #[.val (.ref a1), .val (.int p2), .val (.long q3), .second, .val (.int ix), .val (.long vc), .second] [(.ref o_bytes_a1)]))
        refine Go.step (fun t k => XS.iload X6.here hx rfl (hb hby d10_53) rfl k) ?_
        show Go p e below _ (T6.setTop (mkF m 55 #[.val (.ref a1), .val (.int p2), .val (.long q3), .second, .val (.int ix), .val (.long vc), .second] [(.int ix), (.ref o_bytes_a1)]))
        refine Go.step (fun t k => XS.lload X6.here hx rfl (hb hby d10_55) rfl k) ?_
        show Go p e below _ (T6.setTop (mkF m 57 #[.val (.ref a1), .val (.int p2), .val (.long q3), .second, .val (.int ix), .val (.long vc), .second] [(.long vc), (.int ix), (.ref o_bytes_a1)]))
        refine Go.step (fun t k => XS.l2i X6.here hx rfl (hb hby d10_57) rfl k) ?_
        show Go p e below _ (T6.setTop (mkF m 58 #[.val (.ref a1), .val (.int p2), .val (.long q3), .second, .val (.int ix), .val (.long vc), .second] [(.int (vc.toInt32)), (.int ix), (.ref o_bytes_a1)]))
        refine Go.step (fun t k => XS.i2b X6.here hx rfl (hb hby d10_58) rfl k) ?_
        show Go p e below _ (T6.setTop (mkF m 59 #[.val (.ref a1), .val (.int p2), .val (.long q3), .second, .val (.int ix), .val (.long vc), .second] [(.int ((vc.toInt32).toInt8.toInt32)), (.int ix), (.ref o_bytes_a1)]))
        obtain ⟨cl7, Ar7, in7, -⟩ := A_o_bytes_a1_l4.hin (j := ix) ((own_ix hix).1 : ¬ ix < 0) ((own_ix hix).2 : ix.toNatClampNeg < 256)
        obtain ⟨T7, h7, X7, e7, W7, st7⟩ := stB X6 hx hZ e6 Ar7 in7 (g := (mkF m 59 #[.val (.ref a1), .val (.int p2), .val (.long q3), .second, .val (.int ix), .val (.long vc), .second] [(.int ((vc.toInt32).toInt8.toInt32)), (.int ix), (.ref o_bytes_a1)])) rfl rfl (hb hby d10_59)
        refine Go.step st7 ?_
        have N7 := Fr.snoc X7 Nl4 g_o_bytes_a1
        have F_bytes_a1_7 := F_bytes_a1_l4.other W7 (Or.inl hne_a1_o_bytes_a1)
        have Z7 := Nat.le_trans Zl4 (Keep.of_wr W7).1
        have KK7 : Keep h0 h7 [o_bytes_a1] := KKl4.wr W7 (Or.inl (by simp))
        have A_o_bytes_a1_7 : Ary Z h7 o_bytes_a1 .byte 256 (fun i => .int ((pvF 9 g_o p2 q3) i)) := by rw [← hG, own_putE (by assumption)]; exact A_o_bytes_a1_l4.setI W7 ((own_ix hix).2 : ix.toNatClampNeg < 256)
        show Go p e below _ (T7.setTop (mkF m 60 #[.val (.ref a1), .val (.int p2), .val (.long q3), .second, .val (.int ix), .val (.long vc), .second] []))
        refine retGV X7 hx Bd.notSynchronized Bd.returns (hb hby d10_60) ?_ (by decide) (by decide)
        show Q10 Z a1 p2 q3 o_bytes_a1 g_o h0 n0 _ T7.heap _
        rw [e7]
        exact ⟨rfl, N7, KK7, A_o_bytes_a1_7⟩
      · refine Go.step (fun t k => XS.ifNo Xl4.here hx rfl (hb hby d10_14) rfl ((if0 _ _).trans (feq (fun q => hc5 ((lw_eq _ _).mp q))).1) k) ?_
        show Go p e below _ (Tl4.setTop (mkF m 17 #[.val (.ref a1), .val (.int p2), .val (.long q3), .second, .val (.int ix), .val (.long vc), .second] []))
        refine Go.step (fun t k => XS.aloadN Xl4.here hx rfl (hb hby d10_17) rfl rfl k) ?_
        show Go p e below _ (Tl4.setTop (mkF m 18 #[.val (.ref a1), .val (.int p2), .val (.long q3), .second, .val (.int ix), .val (.long vc), .second] [(.ref a1)]))
        obtain ⟨T8, X8, e8, st8⟩ := getF Xl4 hx hZ hown (host := "") (Or.inl (hw _ (List.mem_of_getElem? (i := 10) rfl))) Via.refl el4 F_bytes_a1_l4 (g := (mkF m 18 #[.val (.ref a1), .val (.int p2), .val (.long q3), .second, .val (.int ix), .val (.long vc), .second] [(.ref a1)])) rfl rfl (hb hby d10_18)
        refine Go.step st8 ?_
        show Go p e below _ (T8.setTop (mkF m 21 #[.val (.ref a1), .val (.int p2), .val (.long q3), .second, .val (.int ix), .val (.long vc), .second] [(.ref o_bytes_a1)]))
        refine Go.step (fun t k => XS.iload X8.here hx rfl (hb hby d10_21) rfl k) ?_
        show Go p e below _ (T8.setTop (mkF m 23 #[.val (.ref a1), .val (.int p2), .val (.long q3), .second, .val (.int ix), .val (.long vc), .second] [(.int ix), (.ref o_bytes_a1)]))
        refine Go.step (fun t k => XS.iinc X8.here hx rfl (hb hby d10_23) rfl (l' := #[.val (.ref a1), .val (.int p2), .val (.long q3), .second, .val (.int (ix + (1 : Int32))), .val (.long vc), .second]) rfl k) ?_
        show Go p e below _ (T8.setTop (mkF m 26 #[.val (.ref a1), .val (.int p2), .val (.long q3), .second, .val (.int (ix + (1 : Int32))), .val (.long vc), .second] [(.int ix), (.ref o_bytes_a1)]))
        refine Go.step (fun t k => XS.lload X8.here hx rfl (hb hby d10_26) rfl k) ?_
        show Go p e below _ (T8.setTop (mkF m 28 #[.val (.ref a1), .val (.int p2), .val (.long q3), .second, .val (.int (ix + (1 : Int32))), .val (.long vc), .second] [(.long vc), (.int ix), (.ref o_bytes_a1)]))
        refine Go.step (X8.ldc2Long hx hown (mvT hZ (hw _ (List.mem_of_getElem? (i := 59) rfl))) (g := (mkF m 28 #[.val (.ref a1), .val (.int p2), .val (.long q3), .second, .val (.int (ix + (1 : Int32))), .val (.long vc), .second] [(.long vc), (.int ix), (.ref o_bytes_a1)])) rfl (hb hby d10_28)) ?_
        show Go p e below _ (T8.setTop (mkF m 31 #[.val (.ref a1), .val (.int p2), .val (.long q3), .second, .val (.int (ix + (1 : Int32))), .val (.long vc), .second] [(.long (127 : Int64)), (.long vc), (.int ix), (.ref o_bytes_a1)]))
        refine Go.step (fun t k => XS.land X8.here hx rfl (hb hby d10_31) rfl k) ?_
        show Go p e below _ (T8.setTop (mkF m 32 #[.val (.ref a1), .val (.int p2), .val (.long q3), .second, .val (.int (ix + (1 : Int32))), .val (.long vc), .second] [(.long (vc &&& (127 : Int64))), (.int ix), (.ref o_bytes_a1)]))
        refine Go.step (X8.ldc2Long hx hown (mvT hZ (hw _ (List.mem_of_getElem? (i := 60) rfl))) (g := (mkF m 32 #[.val (.ref a1), .val (.int p2), .val (.long q3), .second, .val (.int (ix + (1 : Int32))), .val (.long vc), .second] [(.long (vc &&& (127 : Int64))), (.int ix), (.ref o_bytes_a1)])) rfl (hb hby d10_32)) ?_
        show Go p e below _ (T8.setTop (mkF m 35 #[.val (.ref a1), .val (.int p2), .val (.long q3), .second, .val (.int (ix + (1 : Int32))), .val (.long vc), .second] [(.long (128 : Int64)), (.long (vc &&& (127 : Int64))), (.int ix), (.ref o_bytes_a1)]))
        refine Go.step (fun t k => XS.lor X8.here hx rfl (hb hby d10_35) rfl k) ?_
        show Go p e below _ (T8.setTop (mkF m 36 #[.val (.ref a1), .val (.int p2), .val (.long q3), .second, .val (.int (ix + (1 : Int32))), .val (.long vc), .second] [(.long ((vc &&& (127 : Int64)) ||| (128 : Int64))), (.int ix), (.ref o_bytes_a1)]))
        refine Go.step (fun t k => XS.l2i X8.here hx rfl (hb hby d10_36) rfl k) ?_
        show Go p e below _ (T8.setTop (mkF m 37 #[.val (.ref a1), .val (.int p2), .val (.long q3), .second, .val (.int (ix + (1 : Int32))), .val (.long vc), .second] [(.int (((vc &&& (127 : Int64)) ||| (128 : Int64)).toInt32)), (.int ix), (.ref o_bytes_a1)]))
        refine Go.step (fun t k => XS.i2b X8.here hx rfl (hb hby d10_37) rfl k) ?_
        show Go p e below _ (T8.setTop (mkF m 38 #[.val (.ref a1), .val (.int p2), .val (.long q3), .second, .val (.int (ix + (1 : Int32))), .val (.long vc), .second] [(.int ((((vc &&& (127 : Int64)) ||| (128 : Int64)).toInt32).toInt8.toInt32)), (.int ix), (.ref o_bytes_a1)]))
        obtain ⟨cl9, Ar9, in9, -⟩ := A_o_bytes_a1_l4.hin (j := ix) ((own_ix hix).1 : ¬ ix < 0) ((own_ix hix).2 : ix.toNatClampNeg < 256)
        obtain ⟨T9, h9, X9, e9, W9, st9⟩ := stB X8 hx hZ e8 Ar9 in9 (g := (mkF m 38 #[.val (.ref a1), .val (.int p2), .val (.long q3), .second, .val (.int (ix + (1 : Int32))), .val (.long vc), .second] [(.int ((((vc &&& (127 : Int64)) ||| (128 : Int64)).toInt32).toInt8.toInt32)), (.int ix), (.ref o_bytes_a1)])) rfl rfl (hb hby d10_38)
        refine Go.step st9 ?_
        have N9 := Fr.snoc X9 Nl4 g_o_bytes_a1
        have F_bytes_a1_9 := F_bytes_a1_l4.other W9 (Or.inl hne_a1_o_bytes_a1)
        have Z9 := Nat.le_trans Zl4 (Keep.of_wr W9).1
        have KK9 : Keep h0 h9 [o_bytes_a1] := KKl4.wr W9 (Or.inl (by simp))
        have A_o_bytes_a1_9 : Ary Z h9 o_bytes_a1 .byte 256 (fun i => .int ((upA gc ix.toNatClampNeg (nar .byte ((((vc &&& (127 : Int64)) ||| (128 : Int64)).toInt32).toInt8.toInt32))) i)) := A_o_bytes_a1_l4.setI W9 ((own_ix hix).2 : ix.toNatClampNeg < 256)
        show Go p e below _ (T9.setTop (mkF m 39 #[.val (.ref a1), .val (.int p2), .val (.long q3), .second, .val (.int (ix + (1 : Int32))), .val (.long vc), .second] []))
        refine Go.step (fun t k => XS.lload X9.here hx rfl (hb hby d10_39) rfl k) ?_
        show Go p e below _ (T9.setTop (mkF m 41 #[.val (.ref a1), .val (.int p2), .val (.long q3), .second, .val (.int (ix + (1 : Int32))), .val (.long vc), .second] [(.long vc)]))
        refine Go.step (fun t k => XS.bipush X9.here hx rfl (hb hby d10_41)  k) ?_
        show Go p e below _ (T9.setTop (mkF m 43 #[.val (.ref a1), .val (.int p2), .val (.long q3), .second, .val (.int (ix + (1 : Int32))), .val (.long vc), .second] [(.int (7 : Int32)), (.long vc)]))
        refine Go.step (fun t k => XS.lushr X9.here hx rfl (hb hby d10_43) rfl k) ?_
        show Go p e below _ (T9.setTop (mkF m 44 #[.val (.ref a1), .val (.int p2), .val (.long q3), .second, .val (.int (ix + (1 : Int32))), .val (.long vc), .second] [(.long ((vc.toUInt64 >>> ((7 : Int32) &&& 0x3f).toInt64.toUInt64).toInt64))]))
        obtain ⟨v10, hv10⟩ : ∃ z : Int64, z = ((vc.toUInt64 >>> ((7 : Int32) &&& 0x3f).toInt64.toUInt64).toInt64) := ⟨_, rfl⟩
        rw [← hv10]
        show Go p e below _ (T9.setTop (mkF m 44 #[.val (.ref a1), .val (.int p2), .val (.long q3), .second, .val (.int (ix + (1 : Int32))), .val (.long vc), .second] [(.long v10)]))
        refine Go.step (fun t k => XS.lstore X9.here hx rfl (hb hby d10_44) rfl (l' := #[.val (.ref a1), .val (.int p2), .val (.long q3), .second, .val (.int (ix + (1 : Int32))), .val (.long v10), .second]) rfl k) ?_
        show Go p e below _ (T9.setTop (mkF m 46 #[.val (.ref a1), .val (.int p2), .val (.long q3), .second, .val (.int (ix + (1 : Int32))), .val (.long v10), .second] []))
        refine Go.step (fun t k => XS.goto X9.here hx rfl (pc0 := 46) (pc' := 6) rfl (hb hby d10_46) (by decide) (by decide) k) ?_
        show Go p e below _ (T9.setTop (mkF m 6 #[.val (.ref a1), .val (.int p2), .val (.long q3), .second, .val (.int (ix + (1 : Int32))), .val (.long v10), .second] []))
        show Go p e below _ (T9.setTop (mkF m 6 #[.val (.ref a1), .val (.int p2), .val (.long q3), .second, .val (.int (ix + (1 : Int32))), .val (.long v10), .second] []))
        have hf := own_fuel hbd (by first | assumption | (subst_vars; assumption))
        exact ih _ (by omega) (fuel - 1) (ix + (1 : Int32)) v10 _ _ _ _ rfl (by subst_vars; exact own_b1 hbd hf) (own_ix1 hix hf) (by subst_vars; exact (own_put hf (by assumption)).trans hG) X9 N9 e9 KK9 Z9 F_bytes_a1_9 A_o_bytes_a1_9
  exact LOOP6 _ 9 p2 q3 g_o _ _ _ rfl (own_b0 _) hx0 rfl X0 N0 e0 KK0 Z0 F_bytes_a1 A_o_bytes_a1
theorem d12_0 : decode prog_13_method_24_code 0 = .ok (.lconst 0, 1) := by decide +kernel
theorem d12_1 : decode prog_13_method_24_code 1 = .ok (.lstore_n 2, 1) := by decide +kernel
theorem d12_2 : decode prog_13_method_24_code 2 = .ok (.iload_n 1, 1) := by decide +kernel
theorem d12_3 : decode prog_13_method_24_code 3 = .ok (.istore 4, 2) := by decide +kernel
theorem d12_5 : decode prog_13_method_24_code 5 = .ok (.iconst 0, 1) := by decide +kernel
theorem d12_6 : decode prog_13_method_24_code 6 = .ok (.istore 5, 2) := by decide +kernel
theorem d12_8 : decode prog_13_method_24_code 8 = .ok (.aload_n 0, 1) := by decide +kernel
theorem d12_9 : decode prog_13_method_24_code 9 = .ok (.getfield 11, 3) := by decide +kernel
theorem d12_12 : decode prog_13_method_24_code 12 = .ok (.iload 4, 2) := by decide +kernel
theorem d12_14 : decode prog_13_method_24_code 14 = .ok (.iinc 4 1, 3) := by decide +kernel
theorem d12_17 : decode prog_13_method_24_code 17 = .ok (.baload, 1) := by decide +kernel
theorem d12_18 : decode prog_13_method_24_code 18 = .ok (.istore 6, 2) := by decide +kernel
theorem d12_20 : decode prog_13_method_24_code 20 = .ok (.lload_n 2, 1) := by decide +kernel
theorem d12_21 : decode prog_13_method_24_code 21 = .ok (.iload 6, 2) := by decide +kernel
theorem d12_23 : decode prog_13_method_24_code 23 = .ok (.bipush 127, 2) := by decide +kernel
theorem d12_25 : decode prog_13_method_24_code 25 = .ok (.iand, 1) := by decide +kernel
theorem d12_26 : decode prog_13_method_24_code 26 = .ok (.i2l, 1) := by decide +kernel
theorem d12_27 : decode prog_13_method_24_code 27 = .ok (.iload 5, 2) := by decide +kernel
theorem d12_29 : decode prog_13_method_24_code 29 = .ok (.lshl, 1) := by decide +kernel
theorem d12_30 : decode prog_13_method_24_code 30 = .ok (.lor, 1) := by decide +kernel
theorem d12_31 : decode prog_13_method_24_code 31 = .ok (.lstore_n 2, 1) := by decide +kernel
theorem d12_32 : decode prog_13_method_24_code 32 = .ok (.iload 6, 2) := by decide +kernel
theorem d12_34 : decode prog_13_method_24_code 34 = .ok (.ifCond .lt 5, 3) := by decide +kernel
theorem d12_39 : decode prog_13_method_24_code 39 = .ok (.iinc 5 7, 3) := by decide +kernel
theorem d12_42 : decode prog_13_method_24_code 42 = .ok (.goto (-34), 3) := by decide +kernel
theorem d12_37 : decode prog_13_method_24_code 37 = .ok (.lload_n 2, 1) := by decide +kernel
theorem d12_38 : decode prog_13_method_24_code 38 = .ok (.lreturn, 1) := by decide +kernel
theorem ef_12 (m : MethodId) (a1 : Addr) (p2 : Int32) : entryFrame m #[(.ref a1), (.int p2)] 7 = mkF m 0 #[.val (.ref a1), .val (.int p2), .unset, .unset, .unset, .unset, .unset] [] := by first | (simp [entryFrame, mkF, argsToLocals, Value.category]; done) | rfl
set_option maxRecDepth 65536 in
set_option maxHeartbeats 40000000 in
theorem rm12 (l : Launch) (Z : State) (a0 : Array Value) (hw : ∀ d ∈ tables_1, d.before a0 Z = true) (ws : List Jvm.Cond) (a1 : Addr) (p2 : Int32) (o_bytes_a1 : Addr) (g_o : Nat → Int32) (j0 : Nat) (h0 : Heap) (n0 : Nat) (Z0 : n0 ≤ h0.size) (hj1 : ∀ i, i < j0 → g_o (p2.toNatClampNeg + i) < 0) (hj2 : ¬ g_o (p2.toNatClampNeg + j0) < 0) (hx0 : 0 ≤ p2.toInt ∧ p2.toInt + j0 < 256) (F_bytes_a1 : Fld Z h0 a1 "com/example/tinwire/tinwire/codec/ByteOutput" "bytes" "[B" (.ref o_bytes_a1)) (A_o_bytes_a1 : Ary Z h0 o_bytes_a1 .byte 256 (fun i => .int (g_o i))) :
    MetFree l (⟨"com/example/tinwire/tinwire/codec/ByteOutput", "varintAt", "(I)J"⟩ : MethodName) (head1 (Jvm.Cond.code (⟨"com/example/tinwire/tinwire/codec/ByteOutput", "varintAt", "(I)J"⟩ : MethodName) prog_13_method_24_code 7 (some .long) :: ws) ({ frames := 0, cells := 0, slots := 0, locals := 0 } : Room)) (fun a U => a = #[(.ref a1), (.int p2)] ∧ Z.Warmed39 U.vm ∧ U.heap = h0) (fun _ _ _ _ _ => True) (fun _ U o U' => ∃ v L, o = .returned v ∧ QP (.long (vaR j0 g_o p2 (0 : Int32) (0 : Int64))) h0 n0 v U'.heap L ∧ FrameEnd U o U' L ({ frames := 0, cells := 0, slots := 0, locals := 0 } : Room).cells ({ frames := 0, cells := 0, slots := 0, locals := 0 } : Room).slots) := by
  refine MetFree.of_bodySF (plainFor_of_name pn_0) hisR ?_
  intro p e s m args below meth c s₁ Bd hml0 hP hK
  obtain ⟨rfl, hZ, hh⟩ := hP
  have hx := Bd.exec
  have hby := Bd.bytes
  have hml : c.maxLocals = 7 := hml0
  have hown : s.vm.findClass "com/example/tinwire/tinwire/codec/ByteOutput" = some m.cls := findClass_of_methodNamed Bd.named
  have hnm := (name_of_methodNamed Bd.named Bd.method).1
  have X0 : Stand p l e ({ frames := 0, cells := 0, slots := 0, locals := 0 } : Room) s m #[(.ref a1), (.int p2)] below meth c s₁ [] 0 0 := Stand.of_body Bd
  have e0 : s₁.heap = h0 := by rw [← hh, Bd.state]; rfl
  have N0 := Fr.nil n0
  refine Go.done (Go.step (fun t k => castTop (ef_12 m a1 p2) k) ?_)
  have KK0 : Keep h0 h0 [] := Keep.refl _ _
  show Go p e below _ (s₁.setTop (mkF m 0 #[.val (.ref a1), .val (.int p2), .unset, .unset, .unset, .unset, .unset] []))
  refine Go.step (fun t k => XS.lconst X0.here hx rfl (hb hby d12_0)  k) ?_
  show Go p e below _ (s₁.setTop (mkF m 1 #[.val (.ref a1), .val (.int p2), .unset, .unset, .unset, .unset, .unset] [(.long (0 : Int64))]))
  refine Go.step (fun t k => XS.lstoreN X0.here hx rfl (hb hby d12_1) rfl (l' := #[.val (.ref a1), .val (.int p2), .val (.long (0 : Int64)), .second, .unset, .unset, .unset]) rfl k) ?_
  show Go p e below _ (s₁.setTop (mkF m 2 #[.val (.ref a1), .val (.int p2), .val (.long (0 : Int64)), .second, .unset, .unset, .unset] []))
  refine Go.step (fun t k => XS.iloadN X0.here hx rfl (hb hby d12_2) rfl k) ?_
  show Go p e below _ (s₁.setTop (mkF m 3 #[.val (.ref a1), .val (.int p2), .val (.long (0 : Int64)), .second, .unset, .unset, .unset] [(.int p2)]))
  refine Go.step (fun t k => XS.istore X0.here hx rfl (hb hby d12_3) rfl (l' := #[.val (.ref a1), .val (.int p2), .val (.long (0 : Int64)), .second, .val (.int p2), .unset, .unset]) rfl k) ?_
  show Go p e below _ (s₁.setTop (mkF m 5 #[.val (.ref a1), .val (.int p2), .val (.long (0 : Int64)), .second, .val (.int p2), .unset, .unset] []))
  refine Go.step (fun t k => XS.iconst X0.here hx rfl (hb hby d12_5)  k) ?_
  show Go p e below _ (s₁.setTop (mkF m 6 #[.val (.ref a1), .val (.int p2), .val (.long (0 : Int64)), .second, .val (.int p2), .unset, .unset] [(.int (0 : Int32))]))
  refine Go.step (fun t k => XS.istore X0.here hx rfl (hb hby d12_6) rfl (l' := #[.val (.ref a1), .val (.int p2), .val (.long (0 : Int64)), .second, .val (.int p2), .val (.int (0 : Int32)), .unset]) rfl k) ?_
  show Go p e below _ (s₁.setTop (mkF m 8 #[.val (.ref a1), .val (.int p2), .val (.long (0 : Int64)), .second, .val (.int p2), .val (.int (0 : Int32)), .unset] []))
  have LOOP8 : ∀ (mm : Nat) (j : Nat) (ix : Int32) (sh : Int32) (res : Int64) (sl6 : Slot) (hsl6 : One sl6) (Tl3 : State) (Ll3 : List Loc) (hmm : j = mm) (h1 : ∀ i, i < j → g_o (ix.toNatClampNeg + i) < 0) (h2 : ¬ g_o (ix.toNatClampNeg + j) < 0) (hix : 0 ≤ ix.toInt ∧ ix.toInt + j < 256) (hR : vaR j g_o ix sh res = (vaR j0 g_o p2 (0 : Int32) (0 : Int64))) (Xl3 : Stand p l e ({ frames := 0, cells := 0, slots := 0, locals := 0 } : Room) s m #[(.ref a1), (.int p2)] below meth c Tl3 Ll3 0 0) (Nl3 : Fr n0 Ll3) (el3 : Tl3.heap = h0), Go p e below (FinQ below s (QP (.long (vaR j0 g_o p2 (0 : Int32) (0 : Int64))) h0 n0) ({ frames := 0, cells := 0, slots := 0, locals := 0 } : Room).cells ({ frames := 0, cells := 0, slots := 0, locals := 0 } : Room).slots) (Tl3.setTop (mkF m 8 #[.val (.ref a1), .val (.int p2), .val (.long res), .second, .val (.int ix), .val (.int sh), sl6] [])) := by
    intro mm
    induction mm using Nat.strongRecOn with
    | _ mm ih =>
      intro j ix sh res sl6 hsl6 Tl3 Ll3 hmm h1 h2 hix hR Xl3 Nl3 el3
      show Go p e below _ (Tl3.setTop (mkF m 8 #[.val (.ref a1), .val (.int p2), .val (.long res), .second, .val (.int ix), .val (.int sh), sl6] []))
      refine Go.step (fun t k => XS.aloadN Xl3.here hx rfl (hb hby d12_8) rfl rfl k) ?_
      show Go p e below _ (Tl3.setTop (mkF m 9 #[.val (.ref a1), .val (.int p2), .val (.long res), .second, .val (.int ix), .val (.int sh), sl6] [(.ref a1)]))
      obtain ⟨T4, X4, e4, st4⟩ := getF Xl3 hx hZ hown (host := "") (Or.inl (hw _ (List.mem_of_getElem? (i := 10) rfl))) Via.refl el3 F_bytes_a1 (g := (mkF m 9 #[.val (.ref a1), .val (.int p2), .val (.long res), .second, .val (.int ix), .val (.int sh), sl6] [(.ref a1)])) rfl rfl (hb hby d12_9)
      refine Go.step st4 ?_
      show Go p e below _ (T4.setTop (mkF m 12 #[.val (.ref a1), .val (.int p2), .val (.long res), .second, .val (.int ix), .val (.int sh), sl6] [(.ref o_bytes_a1)]))
      refine Go.step (fun t k => XS.iload X4.here hx rfl (hb hby d12_12) rfl k) ?_
      show Go p e below _ (T4.setTop (mkF m 14 #[.val (.ref a1), .val (.int p2), .val (.long res), .second, .val (.int ix), .val (.int sh), sl6] [(.int ix), (.ref o_bytes_a1)]))
      refine Go.step (fun t k => XS.iinc X4.here hx rfl (hb hby d12_14) rfl (l' := #[.val (.ref a1), .val (.int p2), .val (.long res), .second, .val (.int (ix + (1 : Int32))), .val (.int sh), sl6]) rfl k) ?_
      show Go p e below _ (T4.setTop (mkF m 17 #[.val (.ref a1), .val (.int p2), .val (.long res), .second, .val (.int (ix + (1 : Int32))), .val (.int sh), sl6] [(.int ix), (.ref o_bytes_a1)]))
      refine Go.step (ldB X4 hx hZ e4 A_o_bytes_a1 (j := ix) ((own_ix hix).1 : ¬ ix < 0) ((own_ix hix).2 : ix.toNatClampNeg < 256) (g := (mkF m 17 #[.val (.ref a1), .val (.int p2), .val (.long res), .second, .val (.int (ix + (1 : Int32))), .val (.int sh), sl6] [(.int ix), (.ref o_bytes_a1)])) rfl rfl (hb hby d12_17)) ?_
      show Go p e below _ (T4.setTop (mkF m 18 #[.val (.ref a1), .val (.int p2), .val (.long res), .second, .val (.int (ix + (1 : Int32))), .val (.int sh), sl6] [(.int (g_o ix.toNatClampNeg))]))
      obtain ⟨v5, hv5⟩ : ∃ z : Int32, z = (g_o ix.toNatClampNeg) := ⟨_, rfl⟩
      rw [← hv5]
      show Go p e below _ (T4.setTop (mkF m 18 #[.val (.ref a1), .val (.int p2), .val (.long res), .second, .val (.int (ix + (1 : Int32))), .val (.int sh), sl6] [(.int v5)]))
      refine Go.step (fun t k => XS.istore X4.here hx rfl (hb hby d12_18) rfl (l' := #[.val (.ref a1), .val (.int p2), .val (.long res), .second, .val (.int (ix + (1 : Int32))), .val (.int sh), .val (.int v5)]) (by rcases hsl6 with rfl | ⟨w, rfl, hw⟩ <;> first | rfl | (cases w <;> first | rfl | (simp [Value.category] at hw))) k) ?_
      show Go p e below _ (T4.setTop (mkF m 20 #[.val (.ref a1), .val (.int p2), .val (.long res), .second, .val (.int (ix + (1 : Int32))), .val (.int sh), .val (.int v5)] []))
      refine Go.step (fun t k => XS.lloadN X4.here hx rfl (hb hby d12_20) rfl k) ?_
      show Go p e below _ (T4.setTop (mkF m 21 #[.val (.ref a1), .val (.int p2), .val (.long res), .second, .val (.int (ix + (1 : Int32))), .val (.int sh), .val (.int v5)] [(.long res)]))
      refine Go.step (fun t k => XS.iload X4.here hx rfl (hb hby d12_21) rfl k) ?_
      show Go p e below _ (T4.setTop (mkF m 23 #[.val (.ref a1), .val (.int p2), .val (.long res), .second, .val (.int (ix + (1 : Int32))), .val (.int sh), .val (.int v5)] [(.int v5), (.long res)]))
      refine Go.step (fun t k => XS.bipush X4.here hx rfl (hb hby d12_23)  k) ?_
      show Go p e below _ (T4.setTop (mkF m 25 #[.val (.ref a1), .val (.int p2), .val (.long res), .second, .val (.int (ix + (1 : Int32))), .val (.int sh), .val (.int v5)] [(.int (127 : Int32)), (.int v5), (.long res)]))
      refine Go.step (fun t k => XS.iand X4.here hx rfl (hb hby d12_25) rfl k) ?_
      show Go p e below _ (T4.setTop (mkF m 26 #[.val (.ref a1), .val (.int p2), .val (.long res), .second, .val (.int (ix + (1 : Int32))), .val (.int sh), .val (.int v5)] [(.int (v5 &&& (127 : Int32))), (.long res)]))
      refine Go.step (fun t k => XS.i2l X4.here hx rfl (hb hby d12_26) rfl k) ?_
      show Go p e below _ (T4.setTop (mkF m 27 #[.val (.ref a1), .val (.int p2), .val (.long res), .second, .val (.int (ix + (1 : Int32))), .val (.int sh), .val (.int v5)] [(.long ((v5 &&& (127 : Int32)).toInt64)), (.long res)]))
      refine Go.step (fun t k => XS.iload X4.here hx rfl (hb hby d12_27) rfl k) ?_
      show Go p e below _ (T4.setTop (mkF m 29 #[.val (.ref a1), .val (.int p2), .val (.long res), .second, .val (.int (ix + (1 : Int32))), .val (.int sh), .val (.int v5)] [(.int sh), (.long ((v5 &&& (127 : Int32)).toInt64)), (.long res)]))
      refine Go.step (fun t k => XS.lshl X4.here hx rfl (hb hby d12_29) rfl k) ?_
      show Go p e below _ (T4.setTop (mkF m 30 #[.val (.ref a1), .val (.int p2), .val (.long res), .second, .val (.int (ix + (1 : Int32))), .val (.int sh), .val (.int v5)] [(.long (((v5 &&& (127 : Int32)).toInt64) <<< (sh &&& 0x3f).toInt64)), (.long res)]))
      refine Go.step (fun t k => XS.lor X4.here hx rfl (hb hby d12_30) rfl k) ?_
      show Go p e below _ (T4.setTop (mkF m 31 #[.val (.ref a1), .val (.int p2), .val (.long res), .second, .val (.int (ix + (1 : Int32))), .val (.int sh), .val (.int v5)] [(.long (res ||| (((v5 &&& (127 : Int32)).toInt64) <<< (sh &&& 0x3f).toInt64)))]))
      obtain ⟨v6, hv6⟩ : ∃ z : Int64, z = (res ||| (((v5 &&& (127 : Int32)).toInt64) <<< (sh &&& 0x3f).toInt64)) := ⟨_, rfl⟩
      rw [← hv6]
      show Go p e below _ (T4.setTop (mkF m 31 #[.val (.ref a1), .val (.int p2), .val (.long res), .second, .val (.int (ix + (1 : Int32))), .val (.int sh), .val (.int v5)] [(.long v6)]))
      refine Go.step (fun t k => XS.lstoreN X4.here hx rfl (hb hby d12_31) rfl (l' := #[.val (.ref a1), .val (.int p2), .val (.long v6), .second, .val (.int (ix + (1 : Int32))), .val (.int sh), .val (.int v5)]) rfl k) ?_
      show Go p e below _ (T4.setTop (mkF m 32 #[.val (.ref a1), .val (.int p2), .val (.long v6), .second, .val (.int (ix + (1 : Int32))), .val (.int sh), .val (.int v5)] []))
      refine Go.step (fun t k => XS.iload X4.here hx rfl (hb hby d12_32) rfl k) ?_
      show Go p e below _ (T4.setTop (mkF m 34 #[.val (.ref a1), .val (.int p2), .val (.long v6), .second, .val (.int (ix + (1 : Int32))), .val (.int sh), .val (.int v5)] [(.int v5)]))
      by_cases hc7 : v5 < (0 : Int32)
      · refine Go.step (fun t k => XS.ifYes X4.here hx rfl (pc0 := 34) (pc' := 39) rfl (hb hby d12_34) rfl ((if0 _ _).trans (tlt hc7).1) (by decide) (by decide) k) ?_
        show Go p e below _ (T4.setTop (mkF m 39 #[.val (.ref a1), .val (.int p2), .val (.long v6), .second, .val (.int (ix + (1 : Int32))), .val (.int sh), .val (.int v5)] []))
        refine Go.step (fun t k => XS.iinc X4.here hx rfl (hb hby d12_39) rfl (l' := #[.val (.ref a1), .val (.int p2), .val (.long v6), .second, .val (.int (ix + (1 : Int32))), .val (.int (sh + (7 : Int32))), .val (.int v5)]) rfl k) ?_
        show Go p e below _ (T4.setTop (mkF m 42 #[.val (.ref a1), .val (.int p2), .val (.long v6), .second, .val (.int (ix + (1 : Int32))), .val (.int (sh + (7 : Int32))), .val (.int v5)] []))
        refine Go.step (fun t k => XS.goto X4.here hx rfl (pc0 := 42) (pc' := 8) rfl (hb hby d12_42) (by decide) (by decide) k) ?_
        show Go p e below _ (T4.setTop (mkF m 8 #[.val (.ref a1), .val (.int p2), .val (.long v6), .second, .val (.int (ix + (1 : Int32))), .val (.int (sh + (7 : Int32))), .val (.int v5)] []))
        show Go p e below _ (T4.setTop (mkF m 8 #[.val (.ref a1), .val (.int p2), .val (.long v6), .second, .val (.int (ix + (1 : Int32))), .val (.int (sh + (7 : Int32))), .val (.int v5)] []))
        have hf := own_j h2 (by first | assumption | (subst_vars; assumption))
        exact ih _ (by omega) (j - 1) (ix + (1 : Int32)) (sh + (7 : Int32)) v6 _ (One.val rfl) _ _ rfl (fun i hi => by rw [own_nx hix hf, Nat.add_assoc, Nat.add_comm 1 i]; exact h1 (i + 1) (by omega)) (by rw [own_nx hix hf, Nat.add_assoc, show 1 + (j - 1) = j by omega]; exact h2) (own_ix1 hix hf) (by subst_vars; exact (own_va hf).trans hR) X4 Nl3 e4
      · refine Go.step (fun t k => XS.ifNo X4.here hx rfl (hb hby d12_34) rfl ((if0 _ _).trans (flt hc7).1) k) ?_
        show Go p e below _ (T4.setTop (mkF m 37 #[.val (.ref a1), .val (.int p2), .val (.long v6), .second, .val (.int (ix + (1 : Int32))), .val (.int sh), .val (.int v5)] []))
        refine Go.step (fun t k => XS.lloadN X4.here hx rfl (hb hby d12_37) rfl k) ?_
        show Go p e below _ (T4.setTop (mkF m 38 #[.val (.ref a1), .val (.int p2), .val (.long v6), .second, .val (.int (ix + (1 : Int32))), .val (.int sh), .val (.int v5)] [(.long v6)]))
        subst hv6
        subst hv5
        exact retGJ X4 hx Bd.notSynchronized Bd.returns (hb hby d12_38) ⟨by rw [← hR, own_j0 h1 (by first | assumption | (subst_vars; assumption))]; rfl, Nl3, e4⟩ (by decide) (by decide)
  exact LOOP8 _ j0 p2 (0 : Int32) (0 : Int64) _ One.u _ _ rfl hj1 hj2 hx0 rfl X0 N0 e0

/-- a small number -/
def Sm (s : Int32) (b : Int) : Prop := 0 ≤ s.toInt ∧ s.toInt ≤ b
theorem Sm.inc {s : Int32} {b : Int} (h : Sm s b) (hb : b < 1000) : Sm (s + (1 : Int32)) (b + 1) := by
  have e1 : (1 : Int32).toInt = 1 := by decide
  have h1 := h.1; have h2 := h.2
  have e : (s + (1 : Int32)).toInt = s.toInt + 1 := by rw [addI] <;> rw [e1] <;> omega
  exact ⟨by omega, by omega⟩
theorem Sm.room {s : Int32} {b : Int} (h : Sm s b) (hb : b ≤ 200) : ¬ ((256 : Int64) < ((s.toInt64) + (1 : Int64))) := by
  have e1 : (1 : Int64).toInt = 1 := by decide
  have h1 := h.1; have h2 := h.2
  have c := c_i2l s
  rw [Int64.lt_iff_toInt_lt, show (256 : Int64).toInt = 256 by decide, addL] <;> rw [c, e1] <;> omega
theorem Sm.nn {s : Int32} {b : Int} (h : Sm s b) : ¬ s < 0 := (nn_iff s).mpr h.1
theorem Sm.lt {s : Int32} {b : Int} (h : Sm s b) (hb : b ≤ 200) : s.toNatClampNeg < 256 := by
  have c := clamp_of h.1
  have h2 := h.2
  omega
theorem own_room {s : Int32} {v : Int64} (h : 0 ≤ s.toInt ∧ s.toInt + (9 : Nat) < 256) : ¬ ((256 : Int64) < ((s.toInt64) + ((f5 v).toInt64))) := by
  obtain ⟨L, l1, l2, l3, -, -⟩ := own_vl v
  have c := c_i2l s
  have d := c_i2l (f5 v)
  rw [Int64.lt_iff_toInt_lt, show (256 : Int64).toInt = 256 by decide, addL] <;> rw [c, d, l3] <;> omega
theorem szK (k : Int32) (hk : 0 ≤ k.toInt ∧ k.toInt ≤ 2) (v : Int64) : Sm (k + (f5 v)) 12 ∧ ∃ L : Nat, 1 ≤ L ∧ L ≤ 10 ∧ (f5 v).toInt = L ∧ (k + (f5 v)).toInt = k.toInt + L := by
  obtain ⟨L, l1, l2, l3, -, -⟩ := own_vl v
  have e : (k + (f5 v)).toInt = k.toInt + L := by rw [addI] <;> rw [l3] <;> omega
  exact ⟨⟨by omega, by omega⟩, L, l1, l2, l3, e⟩
/-- the array behind the varint and the byte that follows it -/
def G1 (g : Nat → Int32) (k : Int32) (v : Int64) (t : Int32) : Nat → Int32 := upA (pvF 9 g k v) (k + (f5 v)).toNatClampNeg (nar .byte (t.toInt8.toInt32))
theorem va1 (g : Nat → Int32) (k : Int32) (hk : 0 ≤ k.toInt ∧ k.toInt ≤ 2) (v : Int64) (t : Int32) : (∀ i, i < (f5 v).toInt.toNat - 1 → (G1 g k v t) (k.toNatClampNeg + i) < 0) ∧ ¬ (G1 g k v t) (k.toNatClampNeg + ((f5 v).toInt.toNat - 1)) < 0 ∧ (0 ≤ k.toInt ∧ k.toInt + ((f5 v).toInt.toNat - 1 : Nat) < 256) ∧ vaR ((f5 v).toInt.toNat - 1) (G1 g k v t) k (0 : Int32) (0 : Int64) = v := by
  obtain ⟨L, l1, l2, l3, l4, l5⟩ := own_vl v
  have e : (k + (f5 v)).toInt = k.toInt + L := by rw [addI] <;> rw [l3] <;> omega
  have c1 := clamp_of hk.1
  have c2 := clamp_of (x := k + f5 v) (by omega)
  have hn : (f5 v).toInt.toNat = L := by omega
  rw [hn]
  have u0 : 0 ≤ uv v ∧ uv v < 18446744073709551616 := by unfold uv; omega
  have p := put_get 9 L 0 g (G1 g k v t) k 0 v 0 (uv v) l1 (by omega) (by omega) l4 l5 hk.1 (by omega) (by decide) (by decide) (by decide) (by rw [show (0 : Int64).toInt = 0 by decide]; simp) u0.2 (fun i hi => upA_ne _ _ (by omega))
  refine ⟨p.1, p.2.1, ⟨hk.1, by omega⟩, ?_⟩
  apply Int64.toInt_inj.mp
  have q := p.2.2
  have r1 := rng64 v
  have r2 := rng64 (vaR (L - 1) (G1 g k v t) k (0 : Int32) (0 : Int64))
  unfold uv at q
  omega
def G3 (g : Nat → Int32) (s : Int32) (x y : Int32) : Nat → Int32 := upA (upA g s.toNatClampNeg (nar .byte (x.toInt8.toInt32))) (s + (1 : Int32)).toNatClampNeg (nar .byte ((y &&& (127 : Int32)).toInt8.toInt32))
def exp2 (x y : Int32) : Int64 := if (x &&& (255 : Int32)) < (128 : Int32) then (x &&& (255 : Int32)).toInt64 else ((((x &&& (255 : Int32)) &&& (127 : Int32)).toInt64) ||| (((y &&& (127 : Int32)).toInt64) <<< ((7 : Int32) &&& 0x3f).toInt64))
def jj (x : Int32) : Nat := if (x &&& (255 : Int32)) < (128 : Int32) then 0 else 1
theorem va2 (g : Nat → Int32) (s x y : Int32) (hs : Sm s 100) : (∀ i, i < jj x → (G3 g s x y) (s.toNatClampNeg + i) < 0) ∧ ¬ (G3 g s x y) (s.toNatClampNeg + jj x) < 0 ∧ (0 ≤ s.toInt ∧ s.toInt + (jj x : Nat) < 256) ∧ vaR (jj x) (G3 g s x y) s (0 : Int32) (0 : Int64) = exp2 x y := by
  have i1 := hs.inc (by decide)
  have e1 : (1 : Int32).toInt = 1 := by decide
  have h1 := hs.1; have h2 := hs.2
  have e : (s + (1 : Int32)).toInt = s.toInt + 1 := by rw [addI] <;> rw [e1] <;> omega
  have c1 := clamp_of hs.1
  have c2 := clamp_of i1.1
  have n1 : (s + (1 : Int32)).toNatClampNeg = s.toNatClampNeg + 1 := by omega
  have g0 : G3 g s x y s.toNatClampNeg = byteOf x := by unfold G3; rw [upA_ne _ _ (by omega), upA_same]; rfl
  have g1 : G3 g s x y (s.toNatClampNeg + 1) = byteOf (y &&& (127 : Int32)) := by unfold G3; rw [n1, upA_same]; rfl
  have m := c_mask x 255 8 (by decide) (by decide)
  rw [show ((2 ^ 8 : Nat) : Int) = 256 by decide] at m
  have my := c_mask y 127 7 (by decide) (by decide)
  rw [show ((2 ^ 7 : Nat) : Int) = 128 by decide] at my
  have b := byte_int x
  have by' := byte_int (y &&& (127 : Int32))
  have rx := rng32 x
  have e0 : (0 : Int32).toInt = 0 := by decide
  have e128 : (128 : Int32).toInt = 128 := by decide
  have z : ∀ a : Int64, (0 : Int64) ||| (a <<< ((0 : Int32) &&& 0x3f).toInt64) = a := fun a => by
    rw [show ((0 : Int32) &&& 0x3f).toInt64 = 0 by decide, Int64.zero_or]
    apply Int64.toBitVec_inj.mp
    show a.toBitVec <<< _ = a.toBitVec
    rw [show BitVec.smod (Int64.toBitVec 0) 64 = 0#64 by decide]
    simp
  have mm : ∀ w : Int32, ((byteOf w) &&& (127 : Int32)) = (w &&& (127 : Int32)) := fun w => by
    apply Int32.toInt_inj.mp
    have q := byte_int w
    rw [c_mask (byteOf w) 127 7 (by decide) (by decide), c_mask w 127 7 (by decide) (by decide), show ((2 ^ 7 : Nat) : Int) = 128 by decide]
    omega
  unfold jj exp2
  by_cases c : (x &&& (255 : Int32)) < (128 : Int32)
  · rw [if_pos c, if_pos c]
    rw [Int32.lt_iff_toInt_lt] at c
    refine ⟨fun i hi => absurd hi (by omega), ?_, ⟨h1, by omega⟩, ?_⟩
    · rw [Nat.add_zero, g0, nn_iff]; omega
    · show (0 : Int64) ||| (((G3 g s x y s.toNatClampNeg) &&& (127 : Int32)).toInt64 <<< ((0 : Int32) &&& 0x3f).toInt64) = _
      rw [z, g0, mm]
      congr 1
      apply Int32.toInt_inj.mp
      rw [c_mask x 127 7 (by decide) (by decide), show ((2 ^ 7 : Nat) : Int) = 128 by decide]
      omega
  · rw [if_neg c, if_neg c]
    rw [Int32.lt_iff_toInt_lt] at c
    refine ⟨fun i hi => ?_, ?_, ⟨h1, by omega⟩, ?_⟩
    · have : i = 0 := by omega
      subst this
      rw [Nat.add_zero, g0, Int32.lt_iff_toInt_lt]; omega
    · rw [g1, nn_iff]; omega
    · show ((0 : Int64) ||| (((G3 g s x y s.toNatClampNeg) &&& (127 : Int32)).toInt64 <<< ((0 : Int32) &&& 0x3f).toInt64)) ||| (((G3 g s x y (s + (1 : Int32)).toNatClampNeg) &&& (127 : Int32)).toInt64 <<< (((0 : Int32) + (7 : Int32)) &&& 0x3f).toInt64) = _
      rw [z, g0, n1, g1, mm, mm, Int32.and_assoc, Int32.and_assoc]
      rfl

theorem d4_0 : decode prog_13_method_16_code 0 = .ok (.lload_n 1, 1) := by decide +kernel
theorem d4_1 : decode prog_13_method_16_code 1 = .ok (.invokestatic 84, 3) := by decide +kernel
theorem d4_4 : decode prog_13_method_16_code 4 = .ok (.istore_n 3, 1) := by decide +kernel
theorem d4_5 : decode prog_13_method_16_code 5 = .ok (.aload_n 0, 1) := by decide +kernel
theorem d4_6 : decode prog_13_method_16_code 6 = .ok (.iload_n 3, 1) := by decide +kernel
theorem d4_7 : decode prog_13_method_16_code 7 = .ok (.i2l, 1) := by decide +kernel
theorem d4_8 : decode prog_13_method_16_code 8 = .ok (.invokevirtual 58, 3) := by decide +kernel
theorem d4_11 : decode prog_13_method_16_code 11 = .ok (.aload_n 0, 1) := by decide +kernel
theorem d4_12 : decode prog_13_method_16_code 12 = .ok (.aload_n 0, 1) := by decide +kernel
theorem d4_13 : decode prog_13_method_16_code 13 = .ok (.getfield 31, 3) := by decide +kernel
theorem d4_16 : decode prog_13_method_16_code 16 = .ok (.lload_n 1, 1) := by decide +kernel
theorem d4_17 : decode prog_13_method_16_code 17 = .ok (.invokevirtual 88, 3) := by decide +kernel
theorem pd_4 : parseMethodDescriptor "(IJ)V" = some ⟨[.int, .long], none⟩ := by decide +kernel
theorem d4_20 : decode prog_13_method_16_code 20 = .ok (.aload_n 0, 1) := by decide +kernel
theorem d4_21 : decode prog_13_method_16_code 21 = .ok (.dup, 1) := by decide +kernel
theorem d4_22 : decode prog_13_method_16_code 22 = .ok (.getfield 31, 3) := by decide +kernel
theorem d4_25 : decode prog_13_method_16_code 25 = .ok (.iload_n 3, 1) := by decide +kernel
theorem d4_26 : decode prog_13_method_16_code 26 = .ok (.iadd, 1) := by decide +kernel
theorem d4_27 : decode prog_13_method_16_code 27 = .ok (.putfield 31, 3) := by decide +kernel
theorem d4_30 : decode prog_13_method_16_code 30 = .ok (.return_, 1) := by decide +kernel
theorem ef_4 (m : MethodId) (a1 : Addr) (q2 : Int64) : entryFrame m #[(.ref a1), (.long q2)] 4 = mkF m 0 #[.val (.ref a1), .val (.long q2), .second, .unset] [] := by first | (simp [entryFrame, mkF, argsToLocals, Value.category]; done) | rfl
def Q4 (Z : State) (a1 : Addr) (q2 : Int64) (w_size_a1 : Int32) (o_bytes_a1 : Addr) (g_o : Nat → Int32) (h0 : Heap) (n0 : Nat) (v : Option Value) (h : Heap) (L : List Loc) : Prop := v = none ∧ Fr n0 L ∧ Keep h0 h [o_bytes_a1, a1] ∧ Fld Z h a1 "com/example/tinwire/tinwire/codec/ByteOutput" "size" "I" (.int (w_size_a1 + (f5 q2))) ∧ Fld Z h a1 "com/example/tinwire/tinwire/codec/ByteOutput" "bytes" "[B" (.ref o_bytes_a1) ∧ Exa Z h a1 "com/example/tinwire/tinwire/codec/ByteOutput" ∧ Ary Z h o_bytes_a1 .byte 256 (fun i => .int ((pvF 9 g_o w_size_a1 q2) i))
set_option maxRecDepth 65536 in
set_option maxHeartbeats 40000000 in
theorem rm4 (l : Launch) (Z : State) (a0 : Array Value) (hw : ∀ d ∈ tables_1, d.before a0 Z = true) (ws : List Jvm.Cond) (a1 : Addr) (q2 : Int64) (w_size_a1 : Int32) (o_bytes_a1 : Addr) (g_o : Nat → Int32) (h0 : Heap) (n0 : Nat) (Z0 : n0 ≤ h0.size) (hx0 : 0 ≤ w_size_a1.toInt ∧ w_size_a1.toInt + (9 : Nat) < 256) (F_size_a1 : Fld Z h0 a1 "com/example/tinwire/tinwire/codec/ByteOutput" "size" "I" (.int w_size_a1)) (F_bytes_a1 : Fld Z h0 a1 "com/example/tinwire/tinwire/codec/ByteOutput" "bytes" "[B" (.ref o_bytes_a1)) (A_o_bytes_a1 : Ary Z h0 o_bytes_a1 .byte 256 (fun i => .int (g_o i))) (E_a1 : Exa Z h0 a1 "com/example/tinwire/tinwire/codec/ByteOutput") (g_o_bytes_a1 : n0 ≤ o_bytes_a1) (hne_a1_o_bytes_a1 : a1 ≠ o_bytes_a1) (g_a1 : n0 ≤ a1) (hne_o_bytes_a1_a1 : o_bytes_a1 ≠ a1) :
    MetFree l (⟨"com/example/tinwire/tinwire/codec/ByteOutput", "writeVarint", "(J)V"⟩ : MethodName) (head1 (Jvm.Cond.code (⟨"com/example/tinwire/tinwire/codec/ByteOutput", "writeVarint", "(J)V"⟩ : MethodName) prog_13_method_16_code 4 none :: ws) ({ frames := 3, cells := 0, slots := 0, locals := 43 } : Room)) (fun a U => a = #[(.ref a1), (.long q2)] ∧ Z.Warmed39 U.vm ∧ U.heap = h0) (fun _ _ _ _ _ => True) (fun _ U o U' => ∃ v L, o = .returned v ∧ Q4 Z a1 q2 w_size_a1 o_bytes_a1 g_o h0 n0 v U'.heap L ∧ FrameEnd U o U' L ({ frames := 3, cells := 0, slots := 0, locals := 43 } : Room).cells ({ frames := 3, cells := 0, slots := 0, locals := 43 } : Room).slots) := by
  refine MetFree.of_bodySF (plainFor_of_name pn_0) hisR ?_
  intro p e s m args below meth c s₁ Bd hml0 hP hK
  obtain ⟨rfl, hZ, hh⟩ := hP
  have hx := Bd.exec
  have hby := Bd.bytes
  have hml : c.maxLocals = 4 := hml0
  have hown : s.vm.findClass "com/example/tinwire/tinwire/codec/ByteOutput" = some m.cls := findClass_of_methodNamed Bd.named
  have hnm := (name_of_methodNamed Bd.named Bd.method).1
  have X0 : Stand p l e ({ frames := 3, cells := 0, slots := 0, locals := 43 } : Room) s m #[(.ref a1), (.long q2)] below meth c s₁ [] 0 0 := Stand.of_body Bd
  have e0 : s₁.heap = h0 := by rw [← hh, Bd.state]; rfl
  have N0 := Fr.nil n0
  refine Go.done (Go.step (fun t k => castTop (ef_4 m a1 q2) k) ?_)
  have KK0 : Keep h0 h0 [o_bytes_a1, a1] := Keep.refl _ _
  show Go p e below _ (s₁.setTop (mkF m 0 #[.val (.ref a1), .val (.long q2), .second, .unset] []))
  refine Go.step (fun t k => XS.lloadN X0.here hx rfl (hb hby d4_0) rfl k) ?_
  show Go p e below _ (s₁.setTop (mkF m 1 #[.val (.ref a1), .val (.long q2), .second, .unset] [(.long q2)]))
  obtain ⟨_, _, ⟨T3, L3, k3, n3⟩, -, X3, ⟨Lc3, hQ3, l3, y3, z3⟩, st3⟩ := Jvm.LawKit.callS X0 hx (y := (⟨"com/example/tinwire/tinwire/codec/ByteOutput", "varintLength", "(J)I"⟩ : MethodName)) hown (mvT hZ (hw _ (List.mem_of_getElem? (i := 24) rfl))) (mvT hZ (hw _ (List.mem_of_getElem? (i := 25) rfl))) (mvT hZ (hw _ (List.mem_of_getElem? (i := 2) rfl))) (mvT hZ (hw _ (List.mem_of_getElem? (i := 26) rfl))) (by decide) (backOf (W := 0) (rm5 l Z a0 hw [] q2 h0 n0 Z0) hZ (hw _ (List.mem_of_getElem? (i := 26) rfl)) (hw _ (List.mem_of_getElem? (i := 2) rfl)) (by decide) (by decide)) (g := (mkF m 1 #[.val (.ref a1), .val (.long q2), .second, .unset] [(.long q2)])) rfl (by rw [hml]; rfl) (argsL := [(.long q2)]) (rest := []) (lenOf pd_1 rfl) rfl (by show 2 * 0 + _ ≤ _; exact Nat.le_of_eq rfl) (hb hby d4_1) (fun _ _ => ⟨rfl, e0, (by decide : 0 + 0 ≤ _), (by decide : 0 + 0 ≤ _)⟩)
  dsimp only [Pt.U, Pt.locs, Pt.cells, Pt.slots] at X3 l3 y3 z3 st3 hQ3
  subst l3 y3 z3
  obtain ⟨rfl, N3q, e3⟩ := hQ3
  have N3 := Fr.app N0 N3q
  refine Go.step st3 ?_
  show Go p e below _ (T3.setTop (mkF m 4 #[.val (.ref a1), .val (.long q2), .second, .unset] [(.int (f5 q2))]))
  refine Go.step (fun t k => XS.istoreN X3.here hx rfl (hb hby d4_4) rfl (l' := #[.val (.ref a1), .val (.long q2), .second, .val (.int (f5 q2))]) rfl k) ?_
  show Go p e below _ (T3.setTop (mkF m 5 #[.val (.ref a1), .val (.long q2), .second, .val (.int (f5 q2))] []))
  refine Go.step (fun t k => XS.aloadN X3.here hx rfl (hb hby d4_5) rfl rfl k) ?_
  show Go p e below _ (T3.setTop (mkF m 6 #[.val (.ref a1), .val (.long q2), .second, .val (.int (f5 q2))] [(.ref a1)]))
  refine Go.step (fun t k => XS.iloadN X3.here hx rfl (hb hby d4_6) rfl k) ?_
  show Go p e below _ (T3.setTop (mkF m 7 #[.val (.ref a1), .val (.long q2), .second, .val (.int (f5 q2))] [(.int (f5 q2)), (.ref a1)]))
  refine Go.step (fun t k => XS.i2l X3.here hx rfl (hb hby d4_7) rfl k) ?_
  show Go p e below _ (T3.setTop (mkF m 8 #[.val (.ref a1), .val (.long q2), .second, .val (.int (f5 q2))] [(.long ((f5 q2).toInt64)), (.ref a1)]))
  obtain ⟨cq4, q4, q4'⟩ := E_a1.cell
  obtain ⟨_, _, ⟨T4, L4, k4, n4⟩, -, X4, ⟨Lc4, hQ4, l4, y4, z4⟩, st4⟩ := X3.privateBack hx (y := (⟨"com/example/tinwire/tinwire/codec/ByteOutput", "ensureRoom", "(J)V"⟩ : MethodName)) hown (mvT hZ (hw _ (List.mem_of_getElem? (i := 40) rfl))) (mvT hZ (hw _ (List.mem_of_getElem? (i := 41) rfl))) (selP (mvT hZ (hw _ (List.mem_of_getElem? (i := 15) rfl))) rfl (Cond.privateMethod_at (mvP hZ (hw _ (List.mem_of_getElem? (i := 42) rfl)) (args := #[]))) (mvT hZ (hw _ (List.mem_of_getElem? (i := 41) rfl))) (by decide)) (Cond.privateMethod_at (mvP hZ (hw _ (List.mem_of_getElem? (i := 42) rfl)) (args := #[]))) (mvT hZ (hw _ (List.mem_of_getElem? (i := 43) rfl))) (by decide) (backOf (W := 0) (rm9 l Z a0 hw [] a1 ((f5 q2).toInt64) w_size_a1 o_bytes_a1 g_o h0 n0 Z0 F_size_a1 F_bytes_a1 A_o_bytes_a1 ((own_room hx0) : ¬ ((256 : Int64) < ((w_size_a1.toInt64) + ((f5 q2).toInt64))))) hZ (hw _ (List.mem_of_getElem? (i := 43) rfl)) (hw _ (List.mem_of_getElem? (i := 2) rfl)) (by decide) (by decide)) (g := (mkF m 8 #[.val (.ref a1), .val (.long q2), .second, .val (.int (f5 q2))] [(.long ((f5 q2).toInt64)), (.ref a1)])) rfl (by rw [hml]; rfl) (Steps.refl _) (a := a1) (by rw [e3]; exact q4) q4' (argsL := [(.long ((f5 q2).toInt64))]) (rest := []) (lenOf pd_3 rfl) rfl (by show 2 * 0 + _ ≤ _; exact Nat.le_of_eq rfl) (hb hby d4_8) (fun _ _ => ⟨rfl, e3, (by decide : 0 + 0 ≤ _), (by decide : 0 + 0 ≤ _)⟩)
  dsimp only [Pt.U, Pt.locs, Pt.cells, Pt.slots] at X4 l4 y4 z4 st4 hQ4
  subst l4 y4 z4
  obtain ⟨rfl, N4q, e4⟩ := hQ4
  have N4 := Fr.app N3 N4q
  refine Go.trans st4 ?_
  show Go p e below _ (T4.setTop (mkF m 11 #[.val (.ref a1), .val (.long q2), .second, .val (.int (f5 q2))] []))
  refine Go.step (fun t k => XS.aloadN X4.here hx rfl (hb hby d4_11) rfl rfl k) ?_
  show Go p e below _ (T4.setTop (mkF m 12 #[.val (.ref a1), .val (.long q2), .second, .val (.int (f5 q2))] [(.ref a1)]))
  refine Go.step (fun t k => XS.aloadN X4.here hx rfl (hb hby d4_12) rfl rfl k) ?_
  show Go p e below _ (T4.setTop (mkF m 13 #[.val (.ref a1), .val (.long q2), .second, .val (.int (f5 q2))] [(.ref a1), (.ref a1)]))
  obtain ⟨T5, X5, e5, st5⟩ := getF X4 hx hZ hown (host := "") (Or.inl (hw _ (List.mem_of_getElem? (i := 17) rfl))) Via.refl e4 F_size_a1 (g := (mkF m 13 #[.val (.ref a1), .val (.long q2), .second, .val (.int (f5 q2))] [(.ref a1), (.ref a1)])) rfl rfl (hb hby d4_13)
  refine Go.step st5 ?_
  show Go p e below _ (T5.setTop (mkF m 16 #[.val (.ref a1), .val (.long q2), .second, .val (.int (f5 q2))] [(.int w_size_a1), (.ref a1)]))
  refine Go.step (fun t k => XS.lloadN X5.here hx rfl (hb hby d4_16) rfl k) ?_
  show Go p e below _ (T5.setTop (mkF m 17 #[.val (.ref a1), .val (.long q2), .second, .val (.int (f5 q2))] [(.long q2), (.int w_size_a1), (.ref a1)]))
  obtain ⟨cq6, q6, q6'⟩ := E_a1.cell
  obtain ⟨_, _, ⟨T6, L6, k6, n6⟩, -, X6, ⟨Lc6, hQ6, l6, y6, z6⟩, st6⟩ := X5.privateBack hx (y := (⟨"com/example/tinwire/tinwire/codec/ByteOutput", "putVarint", "(IJ)V"⟩ : MethodName)) hown (mvT hZ (hw _ (List.mem_of_getElem? (i := 44) rfl))) (mvT hZ (hw _ (List.mem_of_getElem? (i := 45) rfl))) (selP (mvT hZ (hw _ (List.mem_of_getElem? (i := 15) rfl))) rfl (Cond.privateMethod_at (mvP hZ (hw _ (List.mem_of_getElem? (i := 46) rfl)) (args := #[]))) (mvT hZ (hw _ (List.mem_of_getElem? (i := 45) rfl))) (by decide)) (Cond.privateMethod_at (mvP hZ (hw _ (List.mem_of_getElem? (i := 46) rfl)) (args := #[]))) (mvT hZ (hw _ (List.mem_of_getElem? (i := 47) rfl))) (by decide) (backOf (W := 0) (rm10 l Z a0 hw [] a1 w_size_a1 q2 o_bytes_a1 g_o h0 n0 Z0 (hx0 : 0 ≤ w_size_a1.toInt ∧ w_size_a1.toInt + (9 : Nat) < 256) F_bytes_a1 A_o_bytes_a1 g_o_bytes_a1 hne_a1_o_bytes_a1) hZ (hw _ (List.mem_of_getElem? (i := 47) rfl)) (hw _ (List.mem_of_getElem? (i := 2) rfl)) (by decide) (by decide)) (g := (mkF m 17 #[.val (.ref a1), .val (.long q2), .second, .val (.int (f5 q2))] [(.long q2), (.int w_size_a1), (.ref a1)])) rfl (by rw [hml]; rfl) (Steps.refl _) (a := a1) (by rw [e5]; exact q6) q6' (argsL := [(.int w_size_a1), (.long q2)]) (rest := []) (lenOf pd_4 rfl) rfl (by show 2 * 0 + _ ≤ _; exact Nat.le_of_eq rfl) (hb hby d4_17) (fun _ _ => ⟨rfl, e5, (by decide : 0 + 0 ≤ _), (by decide : 0 + 0 ≤ _)⟩)
  dsimp only [Pt.U, Pt.locs, Pt.cells, Pt.slots] at X6 l6 y6 z6 st6 hQ6
  subst l6 y6 z6
  obtain ⟨rfl, N6q, K6, Q6_0⟩ := hQ6
  have N6 := Fr.app N4 N6q
  have F_size_a1_6 := F_size_a1.keep K6 (ninS hne_a1_o_bytes_a1 nin0)
  have F_bytes_a1_6 := F_bytes_a1.keep K6 (ninS hne_a1_o_bytes_a1 nin0)
  have E_a1_6 := E_a1.keep K6
  have Z6 := Nat.le_trans Z0 K6.1
  have KK6 : Keep h0 T6.heap [o_bytes_a1, a1] := KK0.trans K6 (allS (Or.inl (by simp)) all0)
  refine Go.trans st6 ?_
  show Go p e below _ (T6.setTop (mkF m 20 #[.val (.ref a1), .val (.long q2), .second, .val (.int (f5 q2))] []))
  refine Go.step (fun t k => XS.aloadN X6.here hx rfl (hb hby d4_20) rfl rfl k) ?_
  show Go p e below _ (T6.setTop (mkF m 21 #[.val (.ref a1), .val (.long q2), .second, .val (.int (f5 q2))] [(.ref a1)]))
  refine Go.step (fun t k => XS.dup X6.here hx rfl (hb hby d4_21) rfl rfl k) ?_
  show Go p e below _ (T6.setTop (mkF m 22 #[.val (.ref a1), .val (.long q2), .second, .val (.int (f5 q2))] [(.ref a1), (.ref a1)]))
  obtain ⟨T7, X7, e7, st7⟩ := getF X6 hx hZ hown (host := "") (Or.inl (hw _ (List.mem_of_getElem? (i := 17) rfl))) Via.refl rfl F_size_a1_6 (g := (mkF m 22 #[.val (.ref a1), .val (.long q2), .second, .val (.int (f5 q2))] [(.ref a1), (.ref a1)])) rfl rfl (hb hby d4_22)
  refine Go.step st7 ?_
  show Go p e below _ (T7.setTop (mkF m 25 #[.val (.ref a1), .val (.long q2), .second, .val (.int (f5 q2))] [(.int w_size_a1), (.ref a1)]))
  refine Go.step (fun t k => XS.iloadN X7.here hx rfl (hb hby d4_25) rfl k) ?_
  show Go p e below _ (T7.setTop (mkF m 26 #[.val (.ref a1), .val (.long q2), .second, .val (.int (f5 q2))] [(.int (f5 q2)), (.int w_size_a1), (.ref a1)]))
  refine Go.step (fun t k => XS.iadd X7.here hx rfl (hb hby d4_26) rfl k) ?_
  show Go p e below _ (T7.setTop (mkF m 27 #[.val (.ref a1), .val (.long q2), .second, .val (.int (f5 q2))] [(.int (w_size_a1 + (f5 q2))), (.ref a1)]))
  obtain ⟨T8, h8, X8, e8, W8, st8⟩ := putF X7 hx hZ hown (host := "") (Or.inl (hw _ (List.mem_of_getElem? (i := 17) rfl))) Via.refl e7 F_size_a1_6 E_a1_6 (Or.inl (hw _ (List.mem_of_getElem? (i := 18) rfl))) (hw _ (List.mem_of_getElem? (i := 1) rfl)) (ty := .int) (by decide) rfl rfl (g := (mkF m 27 #[.val (.ref a1), .val (.long q2), .second, .val (.int (f5 q2))] [(.int (w_size_a1 + (f5 q2))), (.ref a1)])) rfl rfl (hb hby d4_27)
  refine Go.step st8 ?_
  have N8 := Fr.snoc X8 N6 g_a1
  have F_bytes_a1_8 := F_bytes_a1_6.other W8 (Or.inr (slot_ne (Or.inl (hw _ (List.mem_of_getElem? (i := 11) rfl))) (Or.inl (hw _ (List.mem_of_getElem? (i := 18) rfl))) (by decide) (t := (.array .byte)) (t' := .int) (by decide) (by decide)))
  have E_a1_8 := E_a1_6.wr W8
  have A_o_bytes_a1_8 := Q6_0.other W8 hne_o_bytes_a1_a1
  have Z8 := Nat.le_trans Z6 (Keep.of_wr W8).1
  have KK8 : Keep h0 h8 [o_bytes_a1, a1] := KK6.wr W8 (Or.inl (by simp))
  have F_size_a1_8 := F_size_a1_6.same W8
  show Go p e below _ (T8.setTop (mkF m 30 #[.val (.ref a1), .val (.long q2), .second, .val (.int (f5 q2))] []))
  refine retGV X8 hx Bd.notSynchronized Bd.returns (hb hby d4_30) ?_ (by decide) (by decide)
  show Q4 Z a1 q2 w_size_a1 o_bytes_a1 g_o h0 n0 _ T8.heap _
  rw [e8]
  exact ⟨rfl, N8, KK8, F_size_a1_8, F_bytes_a1_8, E_a1_8, A_o_bytes_a1_8⟩

theorem own_sm {s : Int32} (h : Sm s (12 + 1)) : Sm s 100 := ⟨h.1, Int.le_trans h.2 (by decide)⟩

theorem pd_5 : parseMethodDescriptor "()V" = some ⟨[], none⟩ := by decide +kernel
theorem pd_6 : parseMethodDescriptor "()I" = some ⟨[], some .int⟩ := by decide +kernel
theorem pd_7 : parseMethodDescriptor "(I)V" = some ⟨[.int], none⟩ := by decide +kernel
theorem pd_8 : parseMethodDescriptor "(I)J" = some ⟨[.int], some .long⟩ := by decide +kernel
theorem ef_0 (m : MethodId) (q1 : Int64) (p2 : Int32) (p3 : Int32) (p4 : Int32) (p5 : Int32) (p6 : Int32) : entryFrame m #[(.long q1), (.int p2), (.int p3), (.int p4), (.int p5), (.int p6)] maxLocals = mkF m 0 #[.val (.long q1), .second, .val (.int p2), .val (.int p3), .val (.int p4), .val (.int p5), .val (.int p6), .unset, .unset, .unset, .unset, .unset, .unset, .unset, .unset] [] := by first | (simp [entryFrame, mkF, argsToLocals, Value.category, maxLocals]; done) | rfl
theorem pn_3 : plainName "com/example/tinwire/tinwire/codec/ByteOutputVarintAtPinLaw" = true := by first | (simp [plainName, overriddenIn]; done) | decide +kernel
def f0 (q1 : Int64) (p2 : Int32) (p3 : Int32) (p4 : Int32) (p5 : Int32) (p6 : Int32) : Int32 := (if (p6 &&& (1 : Int32)) = (0 : Int32) then (if (p6 &&& (2 : Int32)) = (0 : Int32) then (if (if (vaR ((f5 q1).toInt.toNat - 1 : Nat) (G1 (fun _ => (0 : Int32)) (0 : Int32) q1 p3) (0 : Int32) (0 : Int32) (0 : Int64)) = q1 then (1 : Int32) else (0 : Int32)) = (0 : Int32) then (0 : Int32) else (if (vaR (jj p4) (G3 (G1 (fun _ => (0 : Int32)) (0 : Int32) q1 p3) (((0 : Int32) + (f5 q1)) + (1 : Int32)) p4 p5) (((0 : Int32) + (f5 q1)) + (1 : Int32)) (0 : Int32) (0 : Int64)) = (if (p4 &&& (255 : Int32)) < (128 : Int32) then ((p4 &&& (255 : Int32)).toInt64) else ((((p4 &&& (255 : Int32)) &&& (127 : Int32)).toInt64) ||| (((p5 &&& (127 : Int32)).toInt64) <<< ((7 : Int32) &&& 0x3f).toInt64))) then (1 : Int32) else (0 : Int32))) else (if (if (vaR ((f5 q1).toInt.toNat - 1 : Nat) (G1 (upA (fun _ => (0 : Int32)) (0 : Int32).toNatClampNeg (nar .byte ((p2 >>> ((8 : Int32) &&& 31)).toInt8.toInt32))) (1 : Int32) q1 p3) (1 : Int32) (0 : Int32) (0 : Int64)) = q1 then (1 : Int32) else (0 : Int32)) = (0 : Int32) then (0 : Int32) else (if (vaR (jj p4) (G3 (G1 (upA (fun _ => (0 : Int32)) (0 : Int32).toNatClampNeg (nar .byte ((p2 >>> ((8 : Int32) &&& 31)).toInt8.toInt32))) (1 : Int32) q1 p3) (((1 : Int32) + (f5 q1)) + (1 : Int32)) p4 p5) (((1 : Int32) + (f5 q1)) + (1 : Int32)) (0 : Int32) (0 : Int64)) = (if (p4 &&& (255 : Int32)) < (128 : Int32) then ((p4 &&& (255 : Int32)).toInt64) else ((((p4 &&& (255 : Int32)) &&& (127 : Int32)).toInt64) ||| (((p5 &&& (127 : Int32)).toInt64) <<< ((7 : Int32) &&& 0x3f).toInt64))) then (1 : Int32) else (0 : Int32)))) else (if (p6 &&& (2 : Int32)) = (0 : Int32) then (if (if (vaR ((f5 q1).toInt.toNat - 1 : Nat) (G1 (upA (fun _ => (0 : Int32)) (0 : Int32).toNatClampNeg (nar .byte (p2.toInt8.toInt32))) (1 : Int32) q1 p3) (1 : Int32) (0 : Int32) (0 : Int64)) = q1 then (1 : Int32) else (0 : Int32)) = (0 : Int32) then (0 : Int32) else (if (vaR (jj p4) (G3 (G1 (upA (fun _ => (0 : Int32)) (0 : Int32).toNatClampNeg (nar .byte (p2.toInt8.toInt32))) (1 : Int32) q1 p3) (((1 : Int32) + (f5 q1)) + (1 : Int32)) p4 p5) (((1 : Int32) + (f5 q1)) + (1 : Int32)) (0 : Int32) (0 : Int64)) = (if (p4 &&& (255 : Int32)) < (128 : Int32) then ((p4 &&& (255 : Int32)).toInt64) else ((((p4 &&& (255 : Int32)) &&& (127 : Int32)).toInt64) ||| (((p5 &&& (127 : Int32)).toInt64) <<< ((7 : Int32) &&& 0x3f).toInt64))) then (1 : Int32) else (0 : Int32))) else (if (if (vaR ((f5 q1).toInt.toNat - 1 : Nat) (G1 (upA (upA (fun _ => (0 : Int32)) (0 : Int32).toNatClampNeg (nar .byte (p2.toInt8.toInt32))) (1 : Int32).toNatClampNeg (nar .byte ((p2 >>> ((8 : Int32) &&& 31)).toInt8.toInt32))) (2 : Int32) q1 p3) (2 : Int32) (0 : Int32) (0 : Int64)) = q1 then (1 : Int32) else (0 : Int32)) = (0 : Int32) then (0 : Int32) else (if (vaR (jj p4) (G3 (G1 (upA (upA (fun _ => (0 : Int32)) (0 : Int32).toNatClampNeg (nar .byte (p2.toInt8.toInt32))) (1 : Int32).toNatClampNeg (nar .byte ((p2 >>> ((8 : Int32) &&& 31)).toInt8.toInt32))) (2 : Int32) q1 p3) (((2 : Int32) + (f5 q1)) + (1 : Int32)) p4 p5) (((2 : Int32) + (f5 q1)) + (1 : Int32)) (0 : Int32) (0 : Int64)) = (if (p4 &&& (255 : Int32)) < (128 : Int32) then ((p4 &&& (255 : Int32)).toInt64) else ((((p4 &&& (255 : Int32)) &&& (127 : Int32)).toInt64) ||| (((p5 &&& (127 : Int32)).toInt64) <<< ((7 : Int32) &&& 0x3f).toInt64))) then (1 : Int32) else (0 : Int32)))))
set_option maxRecDepth 65536 in
set_option maxHeartbeats 40000000 in
theorem rm0 (l : Launch) (Z : State) (a0 : Array Value) (hw : ∀ d ∈ tables_1, d.before a0 Z = true) (ws : List Jvm.Cond) (q1 : Int64) (p2 : Int32) (p3 : Int32) (p4 : Int32) (p5 : Int32) (p6 : Int32) (h0 : Heap) (n0 : Nat) (Z0 : n0 ≤ h0.size) :
    MetFree l x (head1 (Jvm.Cond.code x code maxLocals ret :: ws) room_1) (fun a U => a = #[(.long q1), (.int p2), (.int p3), (.int p4), (.int p5), (.int p6)] ∧ Z.Warmed39 U.vm ∧ U.heap = h0) (fun _ _ _ _ _ => True) (fun _ U o U' => ∃ v L, o = .returned v ∧ QL (.int (f0 q1 p2 p3 p4 p5 p6)) n0 v U'.heap L ∧ FrameEnd U o U' L room_1.cells room_1.slots) := by
  refine MetFree.of_bodySF (plainFor_of_name pn_3) hisR ?_
  intro p e s m args below meth c s₁ Bd hml0 hP hK
  obtain ⟨rfl, hZ, hh⟩ := hP
  have hx := Bd.exec
  have hby := Bd.bytes
  have hml : c.maxLocals = 15 := hml0
  have hown : s.vm.findClass "com/example/tinwire/tinwire/codec/ByteOutputVarintAtPinLaw" = some m.cls := findClass_of_methodNamed Bd.named
  have hnm := (name_of_methodNamed Bd.named Bd.method).1
  have X0 : Stand p l e room_1 s m #[(.long q1), (.int p2), (.int p3), (.int p4), (.int p5), (.int p6)] below meth c s₁ [] 0 0 := Stand.of_body Bd
  have e0 : s₁.heap = h0 := by rw [← hh, Bd.state]; rfl
  have N0 := Fr.nil n0
  refine Go.done (Go.step (fun t k => castTop (ef_0 m q1 p2 p3 p4 p5 p6) k) ?_)
  have KK0 : Keep h0 h0 [] := Keep.refl _ _
  show Go p e below _ (s₁.setTop (mkF m 0 #[.val (.long q1), .second, .val (.int p2), .val (.int p3), .val (.int p4), .val (.int p5), .val (.int p6), .unset, .unset, .unset, .unset, .unset, .unset, .unset, .unset] []))
  obtain ⟨T7, h7, X7, e7, E7, A7, D7, -, st7⟩ := newO X0 hx hZ hown (hw _ (List.mem_of_getElem? (i := 0) rfl)) (hw _ (List.mem_of_getElem? (i := 1) rfl)) (hw _ (List.mem_of_getElem? (i := 2) rfl)) e0 (g := (mkF m 0 #[.val (.long q1), .second, .val (.int p2), .val (.int p3), .val (.int p4), .val (.int p5), .val (.int p6), .unset, .unset, .unset, .unset, .unset, .unset, .unset, .unset] [])) rfl (hb hby at_0) (by decide) (by decide)
  obtain ⟨b7, g7⟩ : ∃ z, z = h0.size := ⟨_, rfl⟩
  rw [← g7] at A7 D7 st7
  have g_b7 : n0 ≤ b7 := Nat.le_trans Z0 (Nat.le_of_eq g7.symm)
  have sz_b7 : h0.size ≤ b7 := Nat.le_trans KK0.1 (Nat.le_of_eq g7.symm)
  refine Go.step st7 ?_
  have Z7 := Nat.le_trans Z0 E7.1
  have KK7 : Keep h0 h7 [] := KK0.ext E7
  have F_bytes_b7 : Fld Z h7 b7 "com/example/tinwire/tinwire/codec/ByteOutput" "bytes" "[B" .null := D7 (Or.inl (hw _ (List.mem_of_getElem? (i := 11) rfl))) (ty := (.array .byte)) (by decide)
  have F_size_b7 : Fld Z h7 b7 "com/example/tinwire/tinwire/codec/ByteOutput" "size" "I" (.int (0 : Int32)) := D7 (Or.inl (hw _ (List.mem_of_getElem? (i := 18) rfl))) (ty := .int) (by decide)
  show Go p e below _ (T7.setTop (mkF m 3 #[.val (.long q1), .second, .val (.int p2), .val (.int p3), .val (.int p4), .val (.int p5), .val (.int p6), .unset, .unset, .unset, .unset, .unset, .unset, .unset, .unset] [(.ref b7)]))
  refine Go.step (fun t k => XS.dup X7.here hx rfl (hb hby at_3) rfl rfl k) ?_
  show Go p e below _ (T7.setTop (mkF m 4 #[.val (.long q1), .second, .val (.int p2), .val (.int p3), .val (.int p4), .val (.int p5), .val (.int p6), .unset, .unset, .unset, .unset, .unset, .unset, .unset, .unset] [(.ref b7), (.ref b7)]))
  obtain ⟨_, _, ⟨T8, L8, k8, n8⟩, -, X8, ⟨Lc8, hQ8, l8, y8, z8⟩, st8⟩ := X7.specialBack hx (y := (⟨"com/example/tinwire/tinwire/codec/ByteOutput", "<init>", "()V"⟩ : MethodName)) rfl hown (mvT hZ (hw _ (List.mem_of_getElem? (i := 3) rfl))) (mvT hZ (hw _ (List.mem_of_getElem? (i := 4) rfl))) (mvT hZ (hw _ (List.mem_of_getElem? (i := 5) rfl))) (by decide) (backOf (W := 1) (rm1 l Z a0 hw [] b7 (0 : Int32) .null h7 n0 Z7 F_size_b7 A7 F_bytes_b7 g_b7) hZ (hw _ (List.mem_of_getElem? (i := 5) rfl)) (hw _ (List.mem_of_getElem? (i := 2) rfl)) (by decide) (by decide)) (g := (mkF m 4 #[.val (.long q1), .second, .val (.int p2), .val (.int p3), .val (.int p4), .val (.int p5), .val (.int p6), .unset, .unset, .unset, .unset, .unset, .unset, .unset, .unset] [(.ref b7), (.ref b7)])) rfl (by rw [hml]; rfl) (Steps.refl _) (a := b7) (argsL := []) (rest := [(.ref b7)]) (lenOf pd_5 rfl) rfl (by show 2 * 0 + _ ≤ _; exact Nat.le_of_eq rfl) (hb hby at_4) (fun _ _ => ⟨rfl, e7, (by decide : 1 + 1 ≤ _), (by decide : 2 + 256 ≤ _)⟩)
  dsimp only [Pt.U, Pt.locs, Pt.cells, Pt.slots] at X8 l8 y8 z8 st8 hQ8
  subst l8 y8 z8
  obtain ⟨b8_0, rfl, N8q, K8, sz8_0, Q8_0, Q8_1, Q8_2, Q8_3⟩ := hQ8
  have N8 := Fr.app N0 N8q
  have g_b8_0 : n0 ≤ b8_0 := Nat.le_trans Z7 sz8_0
  have sz_b8_0 : h0.size ≤ b8_0 := Nat.le_trans KK7.1 sz8_0
  have ne_b7_b8_0 : b7 ≠ b8_0 := Nat.ne_of_lt (Nat.lt_of_lt_of_le A7.lt sz8_0)
  have E_b7_8 := A7.keep K8
  have Z8 := Nat.le_trans Z7 K8.1
  have KK8 : Keep h0 T8.heap [] := KK7.trans K8 (allS (Or.inr sz_b7) all0)
  refine Go.trans st8 ?_
  show Go p e below _ (T8.setTop (mkF m 7 #[.val (.long q1), .second, .val (.int p2), .val (.int p3), .val (.int p4), .val (.int p5), .val (.int p6), .unset, .unset, .unset, .unset, .unset, .unset, .unset, .unset] [(.ref b7)]))
  refine Go.step (fun t k => XS.astore X8.here hx rfl (hb hby at_7) rfl rfl (l' := #[.val (.long q1), .second, .val (.int p2), .val (.int p3), .val (.int p4), .val (.int p5), .val (.int p6), .val (.ref b7), .unset, .unset, .unset, .unset, .unset, .unset, .unset]) rfl k) ?_
  show Go p e below _ (T8.setTop (mkF m 9 #[.val (.long q1), .second, .val (.int p2), .val (.int p3), .val (.int p4), .val (.int p5), .val (.int p6), .val (.ref b7), .unset, .unset, .unset, .unset, .unset, .unset, .unset] []))
  refine Go.step (fun t k => XS.iload X8.here hx rfl (hb hby at_9) rfl k) ?_
  show Go p e below _ (T8.setTop (mkF m 11 #[.val (.long q1), .second, .val (.int p2), .val (.int p3), .val (.int p4), .val (.int p5), .val (.int p6), .val (.ref b7), .unset, .unset, .unset, .unset, .unset, .unset, .unset] [(.int p6)]))
  refine Go.step (fun t k => XS.iconst X8.here hx rfl (hb hby at_11)  k) ?_
  show Go p e below _ (T8.setTop (mkF m 12 #[.val (.long q1), .second, .val (.int p2), .val (.int p3), .val (.int p4), .val (.int p5), .val (.int p6), .val (.ref b7), .unset, .unset, .unset, .unset, .unset, .unset, .unset] [(.int (1 : Int32)), (.int p6)]))
  refine Go.step (fun t k => XS.iand X8.here hx rfl (hb hby at_12) rfl k) ?_
  show Go p e below _ (T8.setTop (mkF m 13 #[.val (.long q1), .second, .val (.int p2), .val (.int p3), .val (.int p4), .val (.int p5), .val (.int p6), .val (.ref b7), .unset, .unset, .unset, .unset, .unset, .unset, .unset] [(.int (p6 &&& (1 : Int32)))]))
  by_cases hc9 : (p6 &&& (1 : Int32)) = (0 : Int32)
  · refine Go.step (fun t k => XS.ifYes X8.here hx rfl (pc0 := 13) (pc' := 22) rfl (hb hby at_13) rfl ((if0 _ _).trans (teq hc9).1) (by decide) (by decide) k) ?_
    show Go p e below _ (T8.setTop (mkF m 22 #[.val (.long q1), .second, .val (.int p2), .val (.int p3), .val (.int p4), .val (.int p5), .val (.int p6), .val (.ref b7), .unset, .unset, .unset, .unset, .unset, .unset, .unset] []))
    refine Go.step (fun t k => XS.iload X8.here hx rfl (hb hby at_22) rfl k) ?_
    show Go p e below _ (T8.setTop (mkF m 24 #[.val (.long q1), .second, .val (.int p2), .val (.int p3), .val (.int p4), .val (.int p5), .val (.int p6), .val (.ref b7), .unset, .unset, .unset, .unset, .unset, .unset, .unset] [(.int p6)]))
    refine Go.step (fun t k => XS.iconst X8.here hx rfl (hb hby at_24)  k) ?_
    show Go p e below _ (T8.setTop (mkF m 25 #[.val (.long q1), .second, .val (.int p2), .val (.int p3), .val (.int p4), .val (.int p5), .val (.int p6), .val (.ref b7), .unset, .unset, .unset, .unset, .unset, .unset, .unset] [(.int (2 : Int32)), (.int p6)]))
    refine Go.step (fun t k => XS.iand X8.here hx rfl (hb hby at_25) rfl k) ?_
    show Go p e below _ (T8.setTop (mkF m 26 #[.val (.long q1), .second, .val (.int p2), .val (.int p3), .val (.int p4), .val (.int p5), .val (.int p6), .val (.ref b7), .unset, .unset, .unset, .unset, .unset, .unset, .unset] [(.int (p6 &&& (2 : Int32)))]))
    by_cases hc10 : (p6 &&& (2 : Int32)) = (0 : Int32)
    · refine Go.step (fun t k => XS.ifYes X8.here hx rfl (pc0 := 26) (pc' := 38) rfl (hb hby at_26) rfl ((if0 _ _).trans (teq hc10).1) (by decide) (by decide) k) ?_
      show Go p e below _ (T8.setTop (mkF m 38 #[.val (.long q1), .second, .val (.int p2), .val (.int p3), .val (.int p4), .val (.int p5), .val (.int p6), .val (.ref b7), .unset, .unset, .unset, .unset, .unset, .unset, .unset] []))
      refine Go.step (fun t k => XS.aload X8.here hx rfl (hb hby at_38) rfl rfl k) ?_
      show Go p e below _ (T8.setTop (mkF m 40 #[.val (.long q1), .second, .val (.int p2), .val (.int p3), .val (.int p4), .val (.int p5), .val (.int p6), .val (.ref b7), .unset, .unset, .unset, .unset, .unset, .unset, .unset] [(.ref b7)]))
      obtain ⟨cq11, kq11, q11a, q11b, q11c⟩ := isOf hZ rfl Q8_1
      obtain ⟨_, _, ⟨T11, L11, k11, n11⟩, -, X11, ⟨Lc11, hQ11, l11, y11, z11⟩, st11⟩ := X8.virtualBack hx (y := (⟨"com/example/tinwire/tinwire/codec/ByteOutput", "size", "()I"⟩ : MethodName)) (z := (⟨"com/example/tinwire/tinwire/codec/ByteOutput", "size", "()I"⟩ : MethodName)) hown (mvT hZ (hw _ (List.mem_of_getElem? (i := 12) rfl))) (mvT hZ (hw _ (List.mem_of_getElem? (i := 13) rfl))) (notFace_of_selects (args := #[]) (mvT hZ (hw _ (List.mem_of_getElem? (i := 15) rfl)))) (mvT hZ (hw _ (List.mem_of_getElem? (i := 15) rfl))) (mvT hZ (hw _ (List.mem_of_getElem? (i := 14) rfl))) (by decide) (backOf (W := 0) (rm3 l Z a0 hw [] b7 (0 : Int32) T8.heap n0 Z8 Q8_0) hZ (hw _ (List.mem_of_getElem? (i := 16) rfl)) (hw _ (List.mem_of_getElem? (i := 2) rfl)) (by decide) (by decide)) q11a q11c (g := (mkF m 40 #[.val (.long q1), .second, .val (.int p2), .val (.int p3), .val (.int p4), .val (.int p5), .val (.int p6), .val (.ref b7), .unset, .unset, .unset, .unset, .unset, .unset, .unset] [(.ref b7)])) rfl (by rw [hml]; rfl) (Steps.refl _) (argsL := []) (rest := []) (lenOf pd_6 rfl) rfl (by show 2 * 0 + _ ≤ _; exact Nat.le_of_eq rfl) (hb hby at_40) (fun _ _ => ⟨rfl, rfl, (by decide : 2 + 0 ≤ _), (by decide : 258 + 0 ≤ _)⟩)
      dsimp only [Pt.U, Pt.locs, Pt.cells, Pt.slots] at X11 l11 y11 z11 st11 hQ11
      subst l11 y11 z11
      obtain ⟨rfl, N11q, e11⟩ := hQ11
      have N11 := Fr.app N8 N11q
      refine Go.trans st11 ?_
      show Go p e below _ (T11.setTop (mkF m 43 #[.val (.long q1), .second, .val (.int p2), .val (.int p3), .val (.int p4), .val (.int p5), .val (.int p6), .val (.ref b7), .unset, .unset, .unset, .unset, .unset, .unset, .unset] [(.int (0 : Int32))]))
      refine Go.step (fun t k => XS.istore X11.here hx rfl (hb hby at_43) rfl (l' := #[.val (.long q1), .second, .val (.int p2), .val (.int p3), .val (.int p4), .val (.int p5), .val (.int p6), .val (.ref b7), .val (.int (0 : Int32)), .unset, .unset, .unset, .unset, .unset, .unset]) rfl k) ?_
      show Go p e below _ (T11.setTop (mkF m 45 #[.val (.long q1), .second, .val (.int p2), .val (.int p3), .val (.int p4), .val (.int p5), .val (.int p6), .val (.ref b7), .val (.int (0 : Int32)), .unset, .unset, .unset, .unset, .unset, .unset] []))
      refine Go.step (fun t k => XS.aload X11.here hx rfl (hb hby at_45) rfl rfl k) ?_
      show Go p e below _ (T11.setTop (mkF m 47 #[.val (.long q1), .second, .val (.int p2), .val (.int p3), .val (.int p4), .val (.int p5), .val (.int p6), .val (.ref b7), .val (.int (0 : Int32)), .unset, .unset, .unset, .unset, .unset, .unset] [(.ref b7)]))
      refine Go.step (fun t k => XS.lloadN X11.here hx rfl (hb hby at_47) rfl k) ?_
      show Go p e below _ (T11.setTop (mkF m 48 #[.val (.long q1), .second, .val (.int p2), .val (.int p3), .val (.int p4), .val (.int p5), .val (.int p6), .val (.ref b7), .val (.int (0 : Int32)), .unset, .unset, .unset, .unset, .unset, .unset] [(.long q1), (.ref b7)]))
      obtain ⟨cq12, kq12, q12a, q12b, q12c⟩ := isOf hZ e11 Q8_1
      obtain ⟨_, _, ⟨T12, L12, k12, n12⟩, -, X12, ⟨Lc12, hQ12, l12, y12, z12⟩, st12⟩ := X11.virtualBack hx (y := (⟨"com/example/tinwire/tinwire/codec/ByteOutput", "writeVarint", "(J)V"⟩ : MethodName)) (z := (⟨"com/example/tinwire/tinwire/codec/ByteOutput", "writeVarint", "(J)V"⟩ : MethodName)) hown (mvT hZ (hw _ (List.mem_of_getElem? (i := 19) rfl))) (mvT hZ (hw _ (List.mem_of_getElem? (i := 20) rfl))) (notFace_of_selects (args := #[]) (mvT hZ (hw _ (List.mem_of_getElem? (i := 22) rfl)))) (mvT hZ (hw _ (List.mem_of_getElem? (i := 22) rfl))) (mvT hZ (hw _ (List.mem_of_getElem? (i := 21) rfl))) (by decide) (backOf (W := 0) (rm4 l Z a0 hw [] b7 q1 (0 : Int32) b8_0 (fun _ => (0 : Int32)) T8.heap n0 Z8 ((by decide) : 0 ≤ (0 : Int32).toInt ∧ (0 : Int32).toInt + (9 : Nat) < 256) Q8_0 Q8_2 Q8_3 Q8_1 g_b8_0 ne_b7_b8_0 g_b7 (Ne.symm ne_b7_b8_0)) hZ (hw _ (List.mem_of_getElem? (i := 23) rfl)) (hw _ (List.mem_of_getElem? (i := 2) rfl)) (by decide) (by decide)) q12a q12c (g := (mkF m 48 #[.val (.long q1), .second, .val (.int p2), .val (.int p3), .val (.int p4), .val (.int p5), .val (.int p6), .val (.ref b7), .val (.int (0 : Int32)), .unset, .unset, .unset, .unset, .unset, .unset] [(.long q1), (.ref b7)])) rfl (by rw [hml]; rfl) (Steps.refl _) (argsL := [(.long q1)]) (rest := []) (lenOf pd_3 rfl) rfl (by show 2 * 0 + _ ≤ _; exact Nat.le_of_eq rfl) (hb hby at_48) (fun _ _ => ⟨rfl, e11, (by decide : 2 + 0 ≤ _), (by decide : 258 + 0 ≤ _)⟩)
      dsimp only [Pt.U, Pt.locs, Pt.cells, Pt.slots] at X12 l12 y12 z12 st12 hQ12
      subst l12 y12 z12
      obtain ⟨rfl, N12q, K12, Q12_0, Q12_1, Q12_2, Q12_3⟩ := hQ12
      have N12 := Fr.app N11 N12q
      have E_b7_12 := Q8_1.keep K12
      have Z12 := Nat.le_trans Z8 K12.1
      have KK12 : Keep h0 T12.heap [] := KK8.trans K12 (allS (Or.inr sz_b8_0) (allS (Or.inr sz_b7) all0))
      refine Go.trans st12 ?_
      show Go p e below _ (T12.setTop (mkF m 51 #[.val (.long q1), .second, .val (.int p2), .val (.int p3), .val (.int p4), .val (.int p5), .val (.int p6), .val (.ref b7), .val (.int (0 : Int32)), .unset, .unset, .unset, .unset, .unset, .unset] []))
      refine Go.step (fun t k => XS.aload X12.here hx rfl (hb hby at_51) rfl rfl k) ?_
      show Go p e below _ (T12.setTop (mkF m 53 #[.val (.long q1), .second, .val (.int p2), .val (.int p3), .val (.int p4), .val (.int p5), .val (.int p6), .val (.ref b7), .val (.int (0 : Int32)), .unset, .unset, .unset, .unset, .unset, .unset] [(.ref b7)]))
      refine Go.step (fun t k => XS.iloadN X12.here hx rfl (hb hby at_53) rfl k) ?_
      show Go p e below _ (T12.setTop (mkF m 54 #[.val (.long q1), .second, .val (.int p2), .val (.int p3), .val (.int p4), .val (.int p5), .val (.int p6), .val (.ref b7), .val (.int (0 : Int32)), .unset, .unset, .unset, .unset, .unset, .unset] [(.int p3), (.ref b7)]))
      obtain ⟨cq13, kq13, q13a, q13b, q13c⟩ := isOf hZ rfl Q12_2
      obtain ⟨_, _, ⟨T13, L13, k13, n13⟩, -, X13, ⟨Lc13, hQ13, l13, y13, z13⟩, st13⟩ := X12.virtualBack hx (y := (⟨"com/example/tinwire/tinwire/codec/ByteOutput", "writeByte", "(I)V"⟩ : MethodName)) (z := (⟨"com/example/tinwire/tinwire/codec/ByteOutput", "writeByte", "(I)V"⟩ : MethodName)) hown (mvT hZ (hw _ (List.mem_of_getElem? (i := 49) rfl))) (mvT hZ (hw _ (List.mem_of_getElem? (i := 50) rfl))) (notFace_of_selects (args := #[]) (mvT hZ (hw _ (List.mem_of_getElem? (i := 52) rfl)))) (mvT hZ (hw _ (List.mem_of_getElem? (i := 52) rfl))) (mvT hZ (hw _ (List.mem_of_getElem? (i := 51) rfl))) (by decide) (backOf (W := 0) (rm11 l Z a0 hw [] b7 p3 ((0 : Int32) + (f5 q1)) b8_0 (pvF 9 (fun _ => (0 : Int32)) (0 : Int32) q1) T12.heap n0 Z12 Q12_0 Q12_1 Q12_3 ((Sm.room (szK (0 : Int32) (by decide) q1).1 (by decide)) : ¬ ((256 : Int64) < ((((0 : Int32) + (f5 q1)).toInt64) + (1 : Int64)))) Q12_2 g_b7 (Ne.symm ne_b7_b8_0) g_b8_0 ((Sm.nn (szK (0 : Int32) (by decide) q1).1) : ¬ ((0 : Int32) + (f5 q1)) < 0) ((Sm.lt (szK (0 : Int32) (by decide) q1).1 (by decide)) : ((0 : Int32) + (f5 q1)).toNatClampNeg < 256) ne_b7_b8_0) hZ (hw _ (List.mem_of_getElem? (i := 53) rfl)) (hw _ (List.mem_of_getElem? (i := 2) rfl)) (by decide) (by decide)) q13a q13c (g := (mkF m 54 #[.val (.long q1), .second, .val (.int p2), .val (.int p3), .val (.int p4), .val (.int p5), .val (.int p6), .val (.ref b7), .val (.int (0 : Int32)), .unset, .unset, .unset, .unset, .unset, .unset] [(.int p3), (.ref b7)])) rfl (by rw [hml]; rfl) (Steps.refl _) (argsL := [(.int p3)]) (rest := []) (lenOf pd_7 rfl) rfl (by show 2 * 0 + _ ≤ _; exact Nat.le_of_eq rfl) (hb hby at_54) (fun _ _ => ⟨rfl, rfl, (by decide : 2 + 0 ≤ _), (by decide : 258 + 0 ≤ _)⟩)
      dsimp only [Pt.U, Pt.locs, Pt.cells, Pt.slots] at X13 l13 y13 z13 st13 hQ13
      subst l13 y13 z13
      obtain ⟨rfl, N13q, K13, Q13_0, Q13_1, Q13_2, Q13_3⟩ := hQ13
      have N13 := Fr.app N12 N13q
      have E_b7_13 := Q12_2.keep K13
      have Z13 := Nat.le_trans Z12 K13.1
      have KK13 : Keep h0 T13.heap [] := KK12.trans K13 (allS (Or.inr sz_b7) (allS (Or.inr sz_b8_0) all0))
      refine Go.trans st13 ?_
      show Go p e below _ (T13.setTop (mkF m 57 #[.val (.long q1), .second, .val (.int p2), .val (.int p3), .val (.int p4), .val (.int p5), .val (.int p6), .val (.ref b7), .val (.int (0 : Int32)), .unset, .unset, .unset, .unset, .unset, .unset] []))
      have Q13_3n : Ary Z T13.heap b8_0 .byte 256 (fun i => .int ((G1 (fun _ => (0 : Int32)) (0 : Int32) q1 p3) i)) := Q13_3
      show Go p e below _ (T13.setTop (mkF m 57 #[.val (.long q1), .second, .val (.int p2), .val (.int p3), .val (.int p4), .val (.int p5), .val (.int p6), .val (.ref b7), .val (.int (0 : Int32)), .unset, .unset, .unset, .unset, .unset, .unset] []))
      refine Go.step (fun t k => XS.aload X13.here hx rfl (hb hby at_57) rfl rfl k) ?_
      show Go p e below _ (T13.setTop (mkF m 59 #[.val (.long q1), .second, .val (.int p2), .val (.int p3), .val (.int p4), .val (.int p5), .val (.int p6), .val (.ref b7), .val (.int (0 : Int32)), .unset, .unset, .unset, .unset, .unset, .unset] [(.ref b7)]))
      refine Go.step (fun t k => XS.iload X13.here hx rfl (hb hby at_59) rfl k) ?_
      show Go p e below _ (T13.setTop (mkF m 61 #[.val (.long q1), .second, .val (.int p2), .val (.int p3), .val (.int p4), .val (.int p5), .val (.int p6), .val (.ref b7), .val (.int (0 : Int32)), .unset, .unset, .unset, .unset, .unset, .unset] [(.int (0 : Int32)), (.ref b7)]))
      obtain ⟨cq14, kq14, q14a, q14b, q14c⟩ := isOf hZ rfl Q13_2
      obtain ⟨_, _, ⟨T14, L14, k14, n14⟩, -, X14, ⟨Lc14, hQ14, l14, y14, z14⟩, st14⟩ := X13.virtualBack hx (y := (⟨"com/example/tinwire/tinwire/codec/ByteOutput", "varintAt", "(I)J"⟩ : MethodName)) (z := (⟨"com/example/tinwire/tinwire/codec/ByteOutput", "varintAt", "(I)J"⟩ : MethodName)) hown (mvT hZ (hw _ (List.mem_of_getElem? (i := 54) rfl))) (mvT hZ (hw _ (List.mem_of_getElem? (i := 55) rfl))) (notFace_of_selects (args := #[]) (mvT hZ (hw _ (List.mem_of_getElem? (i := 57) rfl)))) (mvT hZ (hw _ (List.mem_of_getElem? (i := 57) rfl))) (mvT hZ (hw _ (List.mem_of_getElem? (i := 56) rfl))) (by decide) (backOf (W := 0) (rm12 l Z a0 hw [] b7 (0 : Int32) b8_0 (G1 (fun _ => (0 : Int32)) (0 : Int32) q1 p3) ((f5 q1).toInt.toNat - 1 : Nat) T13.heap n0 Z13 ((va1 (fun _ => (0 : Int32)) (0 : Int32) (by decide) q1 p3).1 : ∀ i, i < ((f5 q1).toInt.toNat - 1 : Nat) → (G1 (fun _ => (0 : Int32)) (0 : Int32) q1 p3) ((0 : Int32).toNatClampNeg + i) < 0) ((va1 (fun _ => (0 : Int32)) (0 : Int32) (by decide) q1 p3).2.1 : ¬ (G1 (fun _ => (0 : Int32)) (0 : Int32) q1 p3) ((0 : Int32).toNatClampNeg + ((f5 q1).toInt.toNat - 1 : Nat)) < 0) ((va1 (fun _ => (0 : Int32)) (0 : Int32) (by decide) q1 p3).2.2.1 : 0 ≤ (0 : Int32).toInt ∧ (0 : Int32).toInt + ((f5 q1).toInt.toNat - 1 : Nat) < 256) Q13_1 Q13_3n) hZ (hw _ (List.mem_of_getElem? (i := 58) rfl)) (hw _ (List.mem_of_getElem? (i := 2) rfl)) (by decide) (by decide)) q14a q14c (g := (mkF m 61 #[.val (.long q1), .second, .val (.int p2), .val (.int p3), .val (.int p4), .val (.int p5), .val (.int p6), .val (.ref b7), .val (.int (0 : Int32)), .unset, .unset, .unset, .unset, .unset, .unset] [(.int (0 : Int32)), (.ref b7)])) rfl (by rw [hml]; rfl) (Steps.refl _) (argsL := [(.int (0 : Int32))]) (rest := []) (lenOf pd_8 rfl) rfl (by show 2 * 0 + _ ≤ _; exact Nat.le_of_eq rfl) (hb hby at_61) (fun _ _ => ⟨rfl, rfl, (by decide : 2 + 0 ≤ _), (by decide : 258 + 0 ≤ _)⟩)
      dsimp only [Pt.U, Pt.locs, Pt.cells, Pt.slots] at X14 l14 y14 z14 st14 hQ14
      subst l14 y14 z14
      obtain ⟨rfl, N14q, e14⟩ := hQ14
      have N14 := Fr.app N13 N14q
      refine Go.trans st14 ?_
      show Go p e below _ (T14.setTop (mkF m 64 #[.val (.long q1), .second, .val (.int p2), .val (.int p3), .val (.int p4), .val (.int p5), .val (.int p6), .val (.ref b7), .val (.int (0 : Int32)), .unset, .unset, .unset, .unset, .unset, .unset] [(.long (vaR ((f5 q1).toInt.toNat - 1 : Nat) (G1 (fun _ => (0 : Int32)) (0 : Int32) q1 p3) (0 : Int32) (0 : Int32) (0 : Int64)))]))
      refine Go.step (fun t k => XS.lloadN X14.here hx rfl (hb hby at_64) rfl k) ?_
      show Go p e below _ (T14.setTop (mkF m 65 #[.val (.long q1), .second, .val (.int p2), .val (.int p3), .val (.int p4), .val (.int p5), .val (.int p6), .val (.ref b7), .val (.int (0 : Int32)), .unset, .unset, .unset, .unset, .unset, .unset] [(.long q1), (.long (vaR ((f5 q1).toInt.toNat - 1 : Nat) (G1 (fun _ => (0 : Int32)) (0 : Int32) q1 p3) (0 : Int32) (0 : Int32) (0 : Int64)))]))
      refine Go.step (fun t k => XS.lcmp X14.here hx rfl (hb hby at_65) rfl k) ?_
      show Go p e below _ (T14.setTop (mkF m 66 #[.val (.long q1), .second, .val (.int p2), .val (.int p3), .val (.int p4), .val (.int p5), .val (.int p6), .val (.ref b7), .val (.int (0 : Int32)), .unset, .unset, .unset, .unset, .unset, .unset] [(.int (lcmpW (vaR ((f5 q1).toInt.toNat - 1 : Nat) (G1 (fun _ => (0 : Int32)) (0 : Int32) q1 p3) (0 : Int32) (0 : Int32) (0 : Int64)) q1))]))
      obtain ⟨v16, hv16⟩ : ∃ z : Int32, z = (if (vaR ((f5 q1).toInt.toNat - 1 : Nat) (G1 (fun _ => (0 : Int32)) (0 : Int32) q1 p3) (0 : Int32) (0 : Int32) (0 : Int64)) = q1 then (1 : Int32) else (0 : Int32)) := ⟨_, rfl⟩
      have J66 : Go p e below (AtF p l e room_1 s m #[(.long q1), (.int p2), (.int p3), (.int p4), (.int p5), (.int p6)] below meth c n0 2 258 T13.heap (mkF m 74 #[.val (.long q1), .second, .val (.int p2), .val (.int p3), .val (.int p4), .val (.int p5), .val (.int p6), .val (.ref b7), .val (.int (0 : Int32)), .unset, .unset, .unset, .unset, .unset, .unset] [(.int v16)])) (T14.setTop (mkF m 66 #[.val (.long q1), .second, .val (.int p2), .val (.int p3), .val (.int p4), .val (.int p5), .val (.int p6), .val (.ref b7), .val (.int (0 : Int32)), .unset, .unset, .unset, .unset, .unset, .unset] [(.int (lcmpW (vaR ((f5 q1).toInt.toNat - 1 : Nat) (G1 (fun _ => (0 : Int32)) (0 : Int32) q1 p3) (0 : Int32) (0 : Int32) (0 : Int64)) q1))])) := by
        by_cases hc15 : (vaR ((f5 q1).toInt.toNat - 1 : Nat) (G1 (fun _ => (0 : Int32)) (0 : Int32) q1 p3) (0 : Int32) (0 : Int32) (0 : Int64)) = q1
        · refine Go.step (fun t k => XS.ifNo X14.here hx rfl (hb hby at_66) rfl ((if0 _ _).trans (teq ((lw_eq _ _).mpr hc15)).2) k) ?_
          show Go p e below _ (T14.setTop (mkF m 69 #[.val (.long q1), .second, .val (.int p2), .val (.int p3), .val (.int p4), .val (.int p5), .val (.int p6), .val (.ref b7), .val (.int (0 : Int32)), .unset, .unset, .unset, .unset, .unset, .unset] []))
          refine Go.step (fun t k => XS.iconst X14.here hx rfl (hb hby at_69)  k) ?_
          show Go p e below _ (T14.setTop (mkF m 70 #[.val (.long q1), .second, .val (.int p2), .val (.int p3), .val (.int p4), .val (.int p5), .val (.int p6), .val (.ref b7), .val (.int (0 : Int32)), .unset, .unset, .unset, .unset, .unset, .unset] [(.int (1 : Int32))]))
          refine Go.step (fun t k => XS.goto X14.here hx rfl (pc0 := 70) (pc' := 74) rfl (hb hby at_70) (by decide) (by decide) k) ?_
          show Go p e below _ (T14.setTop (mkF m 74 #[.val (.long q1), .second, .val (.int p2), .val (.int p3), .val (.int p4), .val (.int p5), .val (.int p6), .val (.ref b7), .val (.int (0 : Int32)), .unset, .unset, .unset, .unset, .unset, .unset] [(.int (1 : Int32))]))
          exact Go.here ⟨_, _, by simp only [hv16, if_pos hc15], X14, N14, e14⟩
        · refine Go.step (fun t k => XS.ifYes X14.here hx rfl (pc0 := 66) (pc' := 73) rfl (hb hby at_66) rfl ((if0 _ _).trans (feq (fun q => hc15 ((lw_eq _ _).mp q))).2) (by decide) (by decide) k) ?_
          show Go p e below _ (T14.setTop (mkF m 73 #[.val (.long q1), .second, .val (.int p2), .val (.int p3), .val (.int p4), .val (.int p5), .val (.int p6), .val (.ref b7), .val (.int (0 : Int32)), .unset, .unset, .unset, .unset, .unset, .unset] []))
          refine Go.step (fun t k => XS.iconst X14.here hx rfl (hb hby at_73)  k) ?_
          show Go p e below _ (T14.setTop (mkF m 74 #[.val (.long q1), .second, .val (.int p2), .val (.int p3), .val (.int p4), .val (.int p5), .val (.int p6), .val (.ref b7), .val (.int (0 : Int32)), .unset, .unset, .unset, .unset, .unset, .unset] [(.int (0 : Int32))]))
          exact Go.here ⟨_, _, by simp only [hv16, if_neg hc15], X14, N14, e14⟩
      obtain ⟨_, st17, T17, Lj17, rfl, X17, N17, e17⟩ := J66
      refine Go.trans st17 ?_
      show Go p e below _ (T17.setTop (mkF m 74 #[.val (.long q1), .second, .val (.int p2), .val (.int p3), .val (.int p4), .val (.int p5), .val (.int p6), .val (.ref b7), .val (.int (0 : Int32)), .unset, .unset, .unset, .unset, .unset, .unset] [(.int v16)]))
      refine Go.step (fun t k => XS.istore X17.here hx rfl (hb hby at_74) rfl (l' := #[.val (.long q1), .second, .val (.int p2), .val (.int p3), .val (.int p4), .val (.int p5), .val (.int p6), .val (.ref b7), .val (.int (0 : Int32)), .val (.int v16), .unset, .unset, .unset, .unset, .unset]) rfl k) ?_
      show Go p e below _ (T17.setTop (mkF m 76 #[.val (.long q1), .second, .val (.int p2), .val (.int p3), .val (.int p4), .val (.int p5), .val (.int p6), .val (.ref b7), .val (.int (0 : Int32)), .val (.int v16), .unset, .unset, .unset, .unset, .unset] []))
      refine Go.step (fun t k => XS.aload X17.here hx rfl (hb hby at_76) rfl rfl k) ?_
      show Go p e below _ (T17.setTop (mkF m 78 #[.val (.long q1), .second, .val (.int p2), .val (.int p3), .val (.int p4), .val (.int p5), .val (.int p6), .val (.ref b7), .val (.int (0 : Int32)), .val (.int v16), .unset, .unset, .unset, .unset, .unset] [(.ref b7)]))
      obtain ⟨cq18, kq18, q18a, q18b, q18c⟩ := isOf hZ e17 Q13_2
      obtain ⟨_, _, ⟨T18, L18, k18, n18⟩, -, X18, ⟨Lc18, hQ18, l18, y18, z18⟩, st18⟩ := X17.virtualBack hx (y := (⟨"com/example/tinwire/tinwire/codec/ByteOutput", "size", "()I"⟩ : MethodName)) (z := (⟨"com/example/tinwire/tinwire/codec/ByteOutput", "size", "()I"⟩ : MethodName)) hown (mvT hZ (hw _ (List.mem_of_getElem? (i := 12) rfl))) (mvT hZ (hw _ (List.mem_of_getElem? (i := 13) rfl))) (notFace_of_selects (args := #[]) (mvT hZ (hw _ (List.mem_of_getElem? (i := 15) rfl)))) (mvT hZ (hw _ (List.mem_of_getElem? (i := 15) rfl))) (mvT hZ (hw _ (List.mem_of_getElem? (i := 14) rfl))) (by decide) (backOf (W := 0) (rm3 l Z a0 hw [] b7 (((0 : Int32) + (f5 q1)) + (1 : Int32)) T13.heap n0 Z13 Q13_0) hZ (hw _ (List.mem_of_getElem? (i := 16) rfl)) (hw _ (List.mem_of_getElem? (i := 2) rfl)) (by decide) (by decide)) q18a q18c (g := (mkF m 78 #[.val (.long q1), .second, .val (.int p2), .val (.int p3), .val (.int p4), .val (.int p5), .val (.int p6), .val (.ref b7), .val (.int (0 : Int32)), .val (.int v16), .unset, .unset, .unset, .unset, .unset] [(.ref b7)])) rfl (by rw [hml]; rfl) (Steps.refl _) (argsL := []) (rest := []) (lenOf pd_6 rfl) rfl (by show 2 * 0 + _ ≤ _; exact Nat.le_of_eq rfl) (hb hby at_78) (fun _ _ => ⟨rfl, e17, (by decide : 2 + 0 ≤ _), (by decide : 258 + 0 ≤ _)⟩)
      dsimp only [Pt.U, Pt.locs, Pt.cells, Pt.slots] at X18 l18 y18 z18 st18 hQ18
      subst l18 y18 z18
      obtain ⟨rfl, N18q, e18⟩ := hQ18
      have N18 := Fr.app N17 N18q
      refine Go.trans st18 ?_
      show Go p e below _ (T18.setTop (mkF m 81 #[.val (.long q1), .second, .val (.int p2), .val (.int p3), .val (.int p4), .val (.int p5), .val (.int p6), .val (.ref b7), .val (.int (0 : Int32)), .val (.int v16), .unset, .unset, .unset, .unset, .unset] [(.int (((0 : Int32) + (f5 q1)) + (1 : Int32)))]))
      obtain ⟨v19, hv19⟩ : ∃ z : Int32, z = (((0 : Int32) + (f5 q1)) + (1 : Int32)) := ⟨_, rfl⟩
      rw [← hv19]
      show Go p e below _ (T18.setTop (mkF m 81 #[.val (.long q1), .second, .val (.int p2), .val (.int p3), .val (.int p4), .val (.int p5), .val (.int p6), .val (.ref b7), .val (.int (0 : Int32)), .val (.int v16), .unset, .unset, .unset, .unset, .unset] [(.int v19)]))
      refine Go.step (fun t k => XS.istore X18.here hx rfl (hb hby at_81) rfl (l' := #[.val (.long q1), .second, .val (.int p2), .val (.int p3), .val (.int p4), .val (.int p5), .val (.int p6), .val (.ref b7), .val (.int (0 : Int32)), .val (.int v16), .val (.int v19), .unset, .unset, .unset, .unset]) rfl k) ?_
      show Go p e below _ (T18.setTop (mkF m 83 #[.val (.long q1), .second, .val (.int p2), .val (.int p3), .val (.int p4), .val (.int p5), .val (.int p6), .val (.ref b7), .val (.int (0 : Int32)), .val (.int v16), .val (.int v19), .unset, .unset, .unset, .unset] []))
      refine Go.step (fun t k => XS.aload X18.here hx rfl (hb hby at_83) rfl rfl k) ?_
      show Go p e below _ (T18.setTop (mkF m 85 #[.val (.long q1), .second, .val (.int p2), .val (.int p3), .val (.int p4), .val (.int p5), .val (.int p6), .val (.ref b7), .val (.int (0 : Int32)), .val (.int v16), .val (.int v19), .unset, .unset, .unset, .unset] [(.ref b7)]))
      refine Go.step (fun t k => XS.iload X18.here hx rfl (hb hby at_85) rfl k) ?_
      show Go p e below _ (T18.setTop (mkF m 87 #[.val (.long q1), .second, .val (.int p2), .val (.int p3), .val (.int p4), .val (.int p5), .val (.int p6), .val (.ref b7), .val (.int (0 : Int32)), .val (.int v16), .val (.int v19), .unset, .unset, .unset, .unset] [(.int p4), (.ref b7)]))
      obtain ⟨cq20, kq20, q20a, q20b, q20c⟩ := isOf hZ e18 Q13_2
      obtain ⟨_, _, ⟨T20, L20, k20, n20⟩, -, X20, ⟨Lc20, hQ20, l20, y20, z20⟩, st20⟩ := X18.virtualBack hx (y := (⟨"com/example/tinwire/tinwire/codec/ByteOutput", "writeByte", "(I)V"⟩ : MethodName)) (z := (⟨"com/example/tinwire/tinwire/codec/ByteOutput", "writeByte", "(I)V"⟩ : MethodName)) hown (mvT hZ (hw _ (List.mem_of_getElem? (i := 49) rfl))) (mvT hZ (hw _ (List.mem_of_getElem? (i := 50) rfl))) (notFace_of_selects (args := #[]) (mvT hZ (hw _ (List.mem_of_getElem? (i := 52) rfl)))) (mvT hZ (hw _ (List.mem_of_getElem? (i := 52) rfl))) (mvT hZ (hw _ (List.mem_of_getElem? (i := 51) rfl))) (by decide) (backOf (W := 0) (rm11 l Z a0 hw [] b7 p4 (((0 : Int32) + (f5 q1)) + (1 : Int32)) b8_0 (G1 (fun _ => (0 : Int32)) (0 : Int32) q1 p3) T13.heap n0 Z13 Q13_0 Q13_1 Q13_3n ((Sm.room (Sm.inc (szK (0 : Int32) (by decide) q1).1 (by decide)) (by decide)) : ¬ ((256 : Int64) < (((((0 : Int32) + (f5 q1)) + (1 : Int32)).toInt64) + (1 : Int64)))) Q13_2 g_b7 (Ne.symm ne_b7_b8_0) g_b8_0 ((Sm.nn (Sm.inc (szK (0 : Int32) (by decide) q1).1 (by decide))) : ¬ (((0 : Int32) + (f5 q1)) + (1 : Int32)) < 0) ((Sm.lt (Sm.inc (szK (0 : Int32) (by decide) q1).1 (by decide)) (by decide)) : (((0 : Int32) + (f5 q1)) + (1 : Int32)).toNatClampNeg < 256) ne_b7_b8_0) hZ (hw _ (List.mem_of_getElem? (i := 53) rfl)) (hw _ (List.mem_of_getElem? (i := 2) rfl)) (by decide) (by decide)) q20a q20c (g := (mkF m 87 #[.val (.long q1), .second, .val (.int p2), .val (.int p3), .val (.int p4), .val (.int p5), .val (.int p6), .val (.ref b7), .val (.int (0 : Int32)), .val (.int v16), .val (.int v19), .unset, .unset, .unset, .unset] [(.int p4), (.ref b7)])) rfl (by rw [hml]; rfl) (Steps.refl _) (argsL := [(.int p4)]) (rest := []) (lenOf pd_7 rfl) rfl (by show 2 * 0 + _ ≤ _; exact Nat.le_of_eq rfl) (hb hby at_87) (fun _ _ => ⟨rfl, e18, (by decide : 2 + 0 ≤ _), (by decide : 258 + 0 ≤ _)⟩)
      dsimp only [Pt.U, Pt.locs, Pt.cells, Pt.slots] at X20 l20 y20 z20 st20 hQ20
      subst l20 y20 z20
      obtain ⟨rfl, N20q, K20, Q20_0, Q20_1, Q20_2, Q20_3⟩ := hQ20
      have N20 := Fr.app N18 N20q
      have E_b7_20 := Q13_2.keep K20
      have Z20 := Nat.le_trans Z13 K20.1
      have KK20 : Keep h0 T20.heap [] := KK13.trans K20 (allS (Or.inr sz_b7) (allS (Or.inr sz_b8_0) all0))
      refine Go.trans st20 ?_
      show Go p e below _ (T20.setTop (mkF m 90 #[.val (.long q1), .second, .val (.int p2), .val (.int p3), .val (.int p4), .val (.int p5), .val (.int p6), .val (.ref b7), .val (.int (0 : Int32)), .val (.int v16), .val (.int v19), .unset, .unset, .unset, .unset] []))
      refine Go.step (fun t k => XS.aload X20.here hx rfl (hb hby at_90) rfl rfl k) ?_
      show Go p e below _ (T20.setTop (mkF m 92 #[.val (.long q1), .second, .val (.int p2), .val (.int p3), .val (.int p4), .val (.int p5), .val (.int p6), .val (.ref b7), .val (.int (0 : Int32)), .val (.int v16), .val (.int v19), .unset, .unset, .unset, .unset] [(.ref b7)]))
      refine Go.step (fun t k => XS.iload X20.here hx rfl (hb hby at_92) rfl k) ?_
      show Go p e below _ (T20.setTop (mkF m 94 #[.val (.long q1), .second, .val (.int p2), .val (.int p3), .val (.int p4), .val (.int p5), .val (.int p6), .val (.ref b7), .val (.int (0 : Int32)), .val (.int v16), .val (.int v19), .unset, .unset, .unset, .unset] [(.int p5), (.ref b7)]))
      refine Go.step (fun t k => XS.bipush X20.here hx rfl (hb hby at_94)  k) ?_
      show Go p e below _ (T20.setTop (mkF m 96 #[.val (.long q1), .second, .val (.int p2), .val (.int p3), .val (.int p4), .val (.int p5), .val (.int p6), .val (.ref b7), .val (.int (0 : Int32)), .val (.int v16), .val (.int v19), .unset, .unset, .unset, .unset] [(.int (127 : Int32)), (.int p5), (.ref b7)]))
      refine Go.step (fun t k => XS.iand X20.here hx rfl (hb hby at_96) rfl k) ?_
      show Go p e below _ (T20.setTop (mkF m 97 #[.val (.long q1), .second, .val (.int p2), .val (.int p3), .val (.int p4), .val (.int p5), .val (.int p6), .val (.ref b7), .val (.int (0 : Int32)), .val (.int v16), .val (.int v19), .unset, .unset, .unset, .unset] [(.int (p5 &&& (127 : Int32))), (.ref b7)]))
      obtain ⟨cq21, kq21, q21a, q21b, q21c⟩ := isOf hZ rfl Q20_2
      obtain ⟨_, _, ⟨T21, L21, k21, n21⟩, -, X21, ⟨Lc21, hQ21, l21, y21, z21⟩, st21⟩ := X20.virtualBack hx (y := (⟨"com/example/tinwire/tinwire/codec/ByteOutput", "writeByte", "(I)V"⟩ : MethodName)) (z := (⟨"com/example/tinwire/tinwire/codec/ByteOutput", "writeByte", "(I)V"⟩ : MethodName)) hown (mvT hZ (hw _ (List.mem_of_getElem? (i := 49) rfl))) (mvT hZ (hw _ (List.mem_of_getElem? (i := 50) rfl))) (notFace_of_selects (args := #[]) (mvT hZ (hw _ (List.mem_of_getElem? (i := 52) rfl)))) (mvT hZ (hw _ (List.mem_of_getElem? (i := 52) rfl))) (mvT hZ (hw _ (List.mem_of_getElem? (i := 51) rfl))) (by decide) (backOf (W := 0) (rm11 l Z a0 hw [] b7 (p5 &&& (127 : Int32)) ((((0 : Int32) + (f5 q1)) + (1 : Int32)) + (1 : Int32)) b8_0 (upA (G1 (fun _ => (0 : Int32)) (0 : Int32) q1 p3) (((0 : Int32) + (f5 q1)) + (1 : Int32)).toNatClampNeg (nar .byte (p4.toInt8.toInt32))) T20.heap n0 Z20 Q20_0 Q20_1 Q20_3 ((Sm.room (Sm.inc (Sm.inc (szK (0 : Int32) (by decide) q1).1 (by decide)) (by decide)) (by decide)) : ¬ ((256 : Int64) < ((((((0 : Int32) + (f5 q1)) + (1 : Int32)) + (1 : Int32)).toInt64) + (1 : Int64)))) Q20_2 g_b7 (Ne.symm ne_b7_b8_0) g_b8_0 ((Sm.nn (Sm.inc (Sm.inc (szK (0 : Int32) (by decide) q1).1 (by decide)) (by decide))) : ¬ ((((0 : Int32) + (f5 q1)) + (1 : Int32)) + (1 : Int32)) < 0) ((Sm.lt (Sm.inc (Sm.inc (szK (0 : Int32) (by decide) q1).1 (by decide)) (by decide)) (by decide)) : ((((0 : Int32) + (f5 q1)) + (1 : Int32)) + (1 : Int32)).toNatClampNeg < 256) ne_b7_b8_0) hZ (hw _ (List.mem_of_getElem? (i := 53) rfl)) (hw _ (List.mem_of_getElem? (i := 2) rfl)) (by decide) (by decide)) q21a q21c (g := (mkF m 97 #[.val (.long q1), .second, .val (.int p2), .val (.int p3), .val (.int p4), .val (.int p5), .val (.int p6), .val (.ref b7), .val (.int (0 : Int32)), .val (.int v16), .val (.int v19), .unset, .unset, .unset, .unset] [(.int (p5 &&& (127 : Int32))), (.ref b7)])) rfl (by rw [hml]; rfl) (Steps.refl _) (argsL := [(.int (p5 &&& (127 : Int32)))]) (rest := []) (lenOf pd_7 rfl) rfl (by show 2 * 0 + _ ≤ _; exact Nat.le_of_eq rfl) (hb hby at_97) (fun _ _ => ⟨rfl, rfl, (by decide : 2 + 0 ≤ _), (by decide : 258 + 0 ≤ _)⟩)
      dsimp only [Pt.U, Pt.locs, Pt.cells, Pt.slots] at X21 l21 y21 z21 st21 hQ21
      subst l21 y21 z21
      obtain ⟨rfl, N21q, K21, Q21_0, Q21_1, Q21_2, Q21_3⟩ := hQ21
      have N21 := Fr.app N20 N21q
      have E_b7_21 := Q20_2.keep K21
      have Z21 := Nat.le_trans Z20 K21.1
      have KK21 : Keep h0 T21.heap [] := KK20.trans K21 (allS (Or.inr sz_b7) (allS (Or.inr sz_b8_0) all0))
      refine Go.trans st21 ?_
      show Go p e below _ (T21.setTop (mkF m 100 #[.val (.long q1), .second, .val (.int p2), .val (.int p3), .val (.int p4), .val (.int p5), .val (.int p6), .val (.ref b7), .val (.int (0 : Int32)), .val (.int v16), .val (.int v19), .unset, .unset, .unset, .unset] []))
      have Q21_3n : Ary Z T21.heap b8_0 .byte 256 (fun i => .int ((G3 (G1 (fun _ => (0 : Int32)) (0 : Int32) q1 p3) (((0 : Int32) + (f5 q1)) + (1 : Int32)) p4 p5) i)) := Q21_3
      show Go p e below _ (T21.setTop (mkF m 100 #[.val (.long q1), .second, .val (.int p2), .val (.int p3), .val (.int p4), .val (.int p5), .val (.int p6), .val (.ref b7), .val (.int (0 : Int32)), .val (.int v16), .val (.int v19), .unset, .unset, .unset, .unset] []))
      refine Go.step (fun t k => XS.iload X21.here hx rfl (hb hby at_100) rfl k) ?_
      show Go p e below _ (T21.setTop (mkF m 102 #[.val (.long q1), .second, .val (.int p2), .val (.int p3), .val (.int p4), .val (.int p5), .val (.int p6), .val (.ref b7), .val (.int (0 : Int32)), .val (.int v16), .val (.int v19), .unset, .unset, .unset, .unset] [(.int p4)]))
      refine Go.step (fun t k => XS.sipush X21.here hx rfl (hb hby at_102)  k) ?_
      show Go p e below _ (T21.setTop (mkF m 105 #[.val (.long q1), .second, .val (.int p2), .val (.int p3), .val (.int p4), .val (.int p5), .val (.int p6), .val (.ref b7), .val (.int (0 : Int32)), .val (.int v16), .val (.int v19), .unset, .unset, .unset, .unset] [(.int (255 : Int32)), (.int p4)]))
      refine Go.step (fun t k => XS.iand X21.here hx rfl (hb hby at_105) rfl k) ?_
      show Go p e below _ (T21.setTop (mkF m 106 #[.val (.long q1), .second, .val (.int p2), .val (.int p3), .val (.int p4), .val (.int p5), .val (.int p6), .val (.ref b7), .val (.int (0 : Int32)), .val (.int v16), .val (.int v19), .unset, .unset, .unset, .unset] [(.int (p4 &&& (255 : Int32)))]))
      obtain ⟨v22, hv22⟩ : ∃ z : Int32, z = (p4 &&& (255 : Int32)) := ⟨_, rfl⟩
      rw [← hv22]
      show Go p e below _ (T21.setTop (mkF m 106 #[.val (.long q1), .second, .val (.int p2), .val (.int p3), .val (.int p4), .val (.int p5), .val (.int p6), .val (.ref b7), .val (.int (0 : Int32)), .val (.int v16), .val (.int v19), .unset, .unset, .unset, .unset] [(.int v22)]))
      refine Go.step (fun t k => XS.istore X21.here hx rfl (hb hby at_106) rfl (l' := #[.val (.long q1), .second, .val (.int p2), .val (.int p3), .val (.int p4), .val (.int p5), .val (.int p6), .val (.ref b7), .val (.int (0 : Int32)), .val (.int v16), .val (.int v19), .val (.int v22), .unset, .unset, .unset]) rfl k) ?_
      show Go p e below _ (T21.setTop (mkF m 108 #[.val (.long q1), .second, .val (.int p2), .val (.int p3), .val (.int p4), .val (.int p5), .val (.int p6), .val (.ref b7), .val (.int (0 : Int32)), .val (.int v16), .val (.int v19), .val (.int v22), .unset, .unset, .unset] []))
      refine Go.step (fun t k => XS.iload X21.here hx rfl (hb hby at_108) rfl k) ?_
      show Go p e below _ (T21.setTop (mkF m 110 #[.val (.long q1), .second, .val (.int p2), .val (.int p3), .val (.int p4), .val (.int p5), .val (.int p6), .val (.ref b7), .val (.int (0 : Int32)), .val (.int v16), .val (.int v19), .val (.int v22), .unset, .unset, .unset] [(.int p5)]))
      refine Go.step (fun t k => XS.bipush X21.here hx rfl (hb hby at_110)  k) ?_
      show Go p e below _ (T21.setTop (mkF m 112 #[.val (.long q1), .second, .val (.int p2), .val (.int p3), .val (.int p4), .val (.int p5), .val (.int p6), .val (.ref b7), .val (.int (0 : Int32)), .val (.int v16), .val (.int v19), .val (.int v22), .unset, .unset, .unset] [(.int (127 : Int32)), (.int p5)]))
      refine Go.step (fun t k => XS.iand X21.here hx rfl (hb hby at_112) rfl k) ?_
      show Go p e below _ (T21.setTop (mkF m 113 #[.val (.long q1), .second, .val (.int p2), .val (.int p3), .val (.int p4), .val (.int p5), .val (.int p6), .val (.ref b7), .val (.int (0 : Int32)), .val (.int v16), .val (.int v19), .val (.int v22), .unset, .unset, .unset] [(.int (p5 &&& (127 : Int32)))]))
      obtain ⟨v23, hv23⟩ : ∃ z : Int32, z = (p5 &&& (127 : Int32)) := ⟨_, rfl⟩
      rw [← hv23]
      show Go p e below _ (T21.setTop (mkF m 113 #[.val (.long q1), .second, .val (.int p2), .val (.int p3), .val (.int p4), .val (.int p5), .val (.int p6), .val (.ref b7), .val (.int (0 : Int32)), .val (.int v16), .val (.int v19), .val (.int v22), .unset, .unset, .unset] [(.int v23)]))
      refine Go.step (fun t k => XS.istore X21.here hx rfl (hb hby at_113) rfl (l' := #[.val (.long q1), .second, .val (.int p2), .val (.int p3), .val (.int p4), .val (.int p5), .val (.int p6), .val (.ref b7), .val (.int (0 : Int32)), .val (.int v16), .val (.int v19), .val (.int v22), .val (.int v23), .unset, .unset]) rfl k) ?_
      show Go p e below _ (T21.setTop (mkF m 115 #[.val (.long q1), .second, .val (.int p2), .val (.int p3), .val (.int p4), .val (.int p5), .val (.int p6), .val (.ref b7), .val (.int (0 : Int32)), .val (.int v16), .val (.int v19), .val (.int v22), .val (.int v23), .unset, .unset] []))
      refine Go.step (fun t k => XS.iload X21.here hx rfl (hb hby at_115) rfl k) ?_
      show Go p e below _ (T21.setTop (mkF m 117 #[.val (.long q1), .second, .val (.int p2), .val (.int p3), .val (.int p4), .val (.int p5), .val (.int p6), .val (.ref b7), .val (.int (0 : Int32)), .val (.int v16), .val (.int v19), .val (.int v22), .val (.int v23), .unset, .unset] [(.int v22)]))
      refine Go.step (fun t k => XS.sipush X21.here hx rfl (hb hby at_117)  k) ?_
      show Go p e below _ (T21.setTop (mkF m 120 #[.val (.long q1), .second, .val (.int p2), .val (.int p3), .val (.int p4), .val (.int p5), .val (.int p6), .val (.ref b7), .val (.int (0 : Int32)), .val (.int v16), .val (.int v19), .val (.int v22), .val (.int v23), .unset, .unset] [(.int (128 : Int32)), (.int v22)]))
      obtain ⟨v25, hv25⟩ : ∃ z : Int64, z = (if v22 < (128 : Int32) then (v22.toInt64) else (((v22 &&& (127 : Int32)).toInt64) ||| ((v23.toInt64) <<< ((7 : Int32) &&& 0x3f).toInt64))) := ⟨_, rfl⟩
      have J120 : Go p e below (AtF p l e room_1 s m #[(.long q1), (.int p2), (.int p3), (.int p4), (.int p5), (.int p6)] below meth c n0 2 258 T21.heap (mkF m 142 #[.val (.long q1), .second, .val (.int p2), .val (.int p3), .val (.int p4), .val (.int p5), .val (.int p6), .val (.ref b7), .val (.int (0 : Int32)), .val (.int v16), .val (.int v19), .val (.int v22), .val (.int v23), .unset, .unset] [(.long v25)])) (T21.setTop (mkF m 120 #[.val (.long q1), .second, .val (.int p2), .val (.int p3), .val (.int p4), .val (.int p5), .val (.int p6), .val (.ref b7), .val (.int (0 : Int32)), .val (.int v16), .val (.int v19), .val (.int v22), .val (.int v23), .unset, .unset] [(.int (128 : Int32)), (.int v22)])) := by
        by_cases hc24 : v22 < (128 : Int32)
        · refine Go.step (fun t k => XS.icmpNo X21.here hx rfl (hb hby at_120) rfl (tlt hc24).2.1 k) ?_
          show Go p e below _ (T21.setTop (mkF m 123 #[.val (.long q1), .second, .val (.int p2), .val (.int p3), .val (.int p4), .val (.int p5), .val (.int p6), .val (.ref b7), .val (.int (0 : Int32)), .val (.int v16), .val (.int v19), .val (.int v22), .val (.int v23), .unset, .unset] []))
          refine Go.step (fun t k => XS.iload X21.here hx rfl (hb hby at_123) rfl k) ?_
          show Go p e below _ (T21.setTop (mkF m 125 #[.val (.long q1), .second, .val (.int p2), .val (.int p3), .val (.int p4), .val (.int p5), .val (.int p6), .val (.ref b7), .val (.int (0 : Int32)), .val (.int v16), .val (.int v19), .val (.int v22), .val (.int v23), .unset, .unset] [(.int v22)]))
          refine Go.step (fun t k => XS.i2l X21.here hx rfl (hb hby at_125) rfl k) ?_
          show Go p e below _ (T21.setTop (mkF m 126 #[.val (.long q1), .second, .val (.int p2), .val (.int p3), .val (.int p4), .val (.int p5), .val (.int p6), .val (.ref b7), .val (.int (0 : Int32)), .val (.int v16), .val (.int v19), .val (.int v22), .val (.int v23), .unset, .unset] [(.long (v22.toInt64))]))
          refine Go.step (fun t k => XS.goto X21.here hx rfl (pc0 := 126) (pc' := 142) rfl (hb hby at_126) (by decide) (by decide) k) ?_
          show Go p e below _ (T21.setTop (mkF m 142 #[.val (.long q1), .second, .val (.int p2), .val (.int p3), .val (.int p4), .val (.int p5), .val (.int p6), .val (.ref b7), .val (.int (0 : Int32)), .val (.int v16), .val (.int v19), .val (.int v22), .val (.int v23), .unset, .unset] [(.long (v22.toInt64))]))
          exact Go.here ⟨_, _, by simp only [hv25, if_pos hc24], X21, N21, rfl⟩
        · refine Go.step (fun t k => XS.icmpYes X21.here hx rfl (pc0 := 120) (pc' := 129) rfl (hb hby at_120) rfl (flt hc24).2.1 (by decide) (by decide) k) ?_
          show Go p e below _ (T21.setTop (mkF m 129 #[.val (.long q1), .second, .val (.int p2), .val (.int p3), .val (.int p4), .val (.int p5), .val (.int p6), .val (.ref b7), .val (.int (0 : Int32)), .val (.int v16), .val (.int v19), .val (.int v22), .val (.int v23), .unset, .unset] []))
          refine Go.step (fun t k => XS.iload X21.here hx rfl (hb hby at_129) rfl k) ?_
          show Go p e below _ (T21.setTop (mkF m 131 #[.val (.long q1), .second, .val (.int p2), .val (.int p3), .val (.int p4), .val (.int p5), .val (.int p6), .val (.ref b7), .val (.int (0 : Int32)), .val (.int v16), .val (.int v19), .val (.int v22), .val (.int v23), .unset, .unset] [(.int v22)]))
          refine Go.step (fun t k => XS.bipush X21.here hx rfl (hb hby at_131)  k) ?_
          show Go p e below _ (T21.setTop (mkF m 133 #[.val (.long q1), .second, .val (.int p2), .val (.int p3), .val (.int p4), .val (.int p5), .val (.int p6), .val (.ref b7), .val (.int (0 : Int32)), .val (.int v16), .val (.int v19), .val (.int v22), .val (.int v23), .unset, .unset] [(.int (127 : Int32)), (.int v22)]))
          refine Go.step (fun t k => XS.iand X21.here hx rfl (hb hby at_133) rfl k) ?_
          show Go p e below _ (T21.setTop (mkF m 134 #[.val (.long q1), .second, .val (.int p2), .val (.int p3), .val (.int p4), .val (.int p5), .val (.int p6), .val (.ref b7), .val (.int (0 : Int32)), .val (.int v16), .val (.int v19), .val (.int v22), .val (.int v23), .unset, .unset] [(.int (v22 &&& (127 : Int32)))]))
          refine Go.step (fun t k => XS.i2l X21.here hx rfl (hb hby at_134) rfl k) ?_
          show Go p e below _ (T21.setTop (mkF m 135 #[.val (.long q1), .second, .val (.int p2), .val (.int p3), .val (.int p4), .val (.int p5), .val (.int p6), .val (.ref b7), .val (.int (0 : Int32)), .val (.int v16), .val (.int v19), .val (.int v22), .val (.int v23), .unset, .unset] [(.long ((v22 &&& (127 : Int32)).toInt64))]))
          refine Go.step (fun t k => XS.iload X21.here hx rfl (hb hby at_135) rfl k) ?_
          show Go p e below _ (T21.setTop (mkF m 137 #[.val (.long q1), .second, .val (.int p2), .val (.int p3), .val (.int p4), .val (.int p5), .val (.int p6), .val (.ref b7), .val (.int (0 : Int32)), .val (.int v16), .val (.int v19), .val (.int v22), .val (.int v23), .unset, .unset] [(.int v23), (.long ((v22 &&& (127 : Int32)).toInt64))]))
          refine Go.step (fun t k => XS.i2l X21.here hx rfl (hb hby at_137) rfl k) ?_
          show Go p e below _ (T21.setTop (mkF m 138 #[.val (.long q1), .second, .val (.int p2), .val (.int p3), .val (.int p4), .val (.int p5), .val (.int p6), .val (.ref b7), .val (.int (0 : Int32)), .val (.int v16), .val (.int v19), .val (.int v22), .val (.int v23), .unset, .unset] [(.long (v23.toInt64)), (.long ((v22 &&& (127 : Int32)).toInt64))]))
          refine Go.step (fun t k => XS.bipush X21.here hx rfl (hb hby at_138)  k) ?_
          show Go p e below _ (T21.setTop (mkF m 140 #[.val (.long q1), .second, .val (.int p2), .val (.int p3), .val (.int p4), .val (.int p5), .val (.int p6), .val (.ref b7), .val (.int (0 : Int32)), .val (.int v16), .val (.int v19), .val (.int v22), .val (.int v23), .unset, .unset] [(.int (7 : Int32)), (.long (v23.toInt64)), (.long ((v22 &&& (127 : Int32)).toInt64))]))
          refine Go.step (fun t k => XS.lshl X21.here hx rfl (hb hby at_140) rfl k) ?_
          show Go p e below _ (T21.setTop (mkF m 141 #[.val (.long q1), .second, .val (.int p2), .val (.int p3), .val (.int p4), .val (.int p5), .val (.int p6), .val (.ref b7), .val (.int (0 : Int32)), .val (.int v16), .val (.int v19), .val (.int v22), .val (.int v23), .unset, .unset] [(.long ((v23.toInt64) <<< ((7 : Int32) &&& 0x3f).toInt64)), (.long ((v22 &&& (127 : Int32)).toInt64))]))
          refine Go.step (fun t k => XS.lor X21.here hx rfl (hb hby at_141) rfl k) ?_
          show Go p e below _ (T21.setTop (mkF m 142 #[.val (.long q1), .second, .val (.int p2), .val (.int p3), .val (.int p4), .val (.int p5), .val (.int p6), .val (.ref b7), .val (.int (0 : Int32)), .val (.int v16), .val (.int v19), .val (.int v22), .val (.int v23), .unset, .unset] [(.long (((v22 &&& (127 : Int32)).toInt64) ||| ((v23.toInt64) <<< ((7 : Int32) &&& 0x3f).toInt64)))]))
          exact Go.here ⟨_, _, by simp only [hv25, if_neg hc24], X21, N21, rfl⟩
      obtain ⟨_, st26, T26, Lj26, rfl, X26, N26, e26⟩ := J120
      refine Go.trans st26 ?_
      show Go p e below _ (T26.setTop (mkF m 142 #[.val (.long q1), .second, .val (.int p2), .val (.int p3), .val (.int p4), .val (.int p5), .val (.int p6), .val (.ref b7), .val (.int (0 : Int32)), .val (.int v16), .val (.int v19), .val (.int v22), .val (.int v23), .unset, .unset] [(.long v25)]))
      refine Go.step (fun t k => XS.lstore X26.here hx rfl (hb hby at_142) rfl (l' := #[.val (.long q1), .second, .val (.int p2), .val (.int p3), .val (.int p4), .val (.int p5), .val (.int p6), .val (.ref b7), .val (.int (0 : Int32)), .val (.int v16), .val (.int v19), .val (.int v22), .val (.int v23), .val (.long v25), .second]) rfl k) ?_
      show Go p e below _ (T26.setTop (mkF m 144 #[.val (.long q1), .second, .val (.int p2), .val (.int p3), .val (.int p4), .val (.int p5), .val (.int p6), .val (.ref b7), .val (.int (0 : Int32)), .val (.int v16), .val (.int v19), .val (.int v22), .val (.int v23), .val (.long v25), .second] []))
      refine Go.step (fun t k => XS.iload X26.here hx rfl (hb hby at_144) rfl k) ?_
      show Go p e below _ (T26.setTop (mkF m 146 #[.val (.long q1), .second, .val (.int p2), .val (.int p3), .val (.int p4), .val (.int p5), .val (.int p6), .val (.ref b7), .val (.int (0 : Int32)), .val (.int v16), .val (.int v19), .val (.int v22), .val (.int v23), .val (.long v25), .second] [(.int v16)]))
      by_cases hc27 : v16 = (0 : Int32)
      · refine Go.step (fun t k => XS.ifYes X26.here hx rfl (pc0 := 146) (pc' := 166) rfl (hb hby at_146) rfl ((if0 _ _).trans (teq hc27).1) (by decide) (by decide) k) ?_
        show Go p e below _ (T26.setTop (mkF m 166 #[.val (.long q1), .second, .val (.int p2), .val (.int p3), .val (.int p4), .val (.int p5), .val (.int p6), .val (.ref b7), .val (.int (0 : Int32)), .val (.int v16), .val (.int v19), .val (.int v22), .val (.int v23), .val (.long v25), .second] []))
        refine Go.step (fun t k => XS.iconst X26.here hx rfl (hb hby at_166)  k) ?_
        show Go p e below _ (T26.setTop (mkF m 167 #[.val (.long q1), .second, .val (.int p2), .val (.int p3), .val (.int p4), .val (.int p5), .val (.int p6), .val (.ref b7), .val (.int (0 : Int32)), .val (.int v16), .val (.int v19), .val (.int v22), .val (.int v23), .val (.long v25), .second] [(.int (0 : Int32))]))
        subst hv25
        subst hv23
        subst hv22
        subst hv19
        subst hv16
        exact retGN X26 hx Bd.notSynchronized Bd.returns (t := .boolean) (by simp) (z' := (0 : Int32)) rfl (hb hby at_167) ⟨by first | (simp only [f0, if_pos hc9, if_pos hc10, if_pos hc27]; done) | rfl | (simp [f0, if_pos hc9, if_pos hc10, if_pos hc27]; done), N26⟩ (by decide) (by decide)
      · refine Go.step (fun t k => XS.ifNo X26.here hx rfl (hb hby at_146) rfl ((if0 _ _).trans (feq hc27).1) k) ?_
        show Go p e below _ (T26.setTop (mkF m 149 #[.val (.long q1), .second, .val (.int p2), .val (.int p3), .val (.int p4), .val (.int p5), .val (.int p6), .val (.ref b7), .val (.int (0 : Int32)), .val (.int v16), .val (.int v19), .val (.int v22), .val (.int v23), .val (.long v25), .second] []))
        refine Go.step (fun t k => XS.aload X26.here hx rfl (hb hby at_149) rfl rfl k) ?_
        show Go p e below _ (T26.setTop (mkF m 151 #[.val (.long q1), .second, .val (.int p2), .val (.int p3), .val (.int p4), .val (.int p5), .val (.int p6), .val (.ref b7), .val (.int (0 : Int32)), .val (.int v16), .val (.int v19), .val (.int v22), .val (.int v23), .val (.long v25), .second] [(.ref b7)]))
        refine Go.step (fun t k => XS.iload X26.here hx rfl (hb hby at_151) rfl k) ?_
        show Go p e below _ (T26.setTop (mkF m 153 #[.val (.long q1), .second, .val (.int p2), .val (.int p3), .val (.int p4), .val (.int p5), .val (.int p6), .val (.ref b7), .val (.int (0 : Int32)), .val (.int v16), .val (.int v19), .val (.int v22), .val (.int v23), .val (.long v25), .second] [(.int v19), (.ref b7)]))
        obtain ⟨cq28, kq28, q28a, q28b, q28c⟩ := isOf hZ e26 Q21_2
        obtain ⟨_, _, ⟨T28, L28, k28, n28⟩, -, X28, ⟨Lc28, hQ28, l28, y28, z28⟩, st28⟩ := X26.virtualBack hx (y := (⟨"com/example/tinwire/tinwire/codec/ByteOutput", "varintAt", "(I)J"⟩ : MethodName)) (z := (⟨"com/example/tinwire/tinwire/codec/ByteOutput", "varintAt", "(I)J"⟩ : MethodName)) hown (mvT hZ (hw _ (List.mem_of_getElem? (i := 54) rfl))) (mvT hZ (hw _ (List.mem_of_getElem? (i := 55) rfl))) (notFace_of_selects (args := #[]) (mvT hZ (hw _ (List.mem_of_getElem? (i := 57) rfl)))) (mvT hZ (hw _ (List.mem_of_getElem? (i := 57) rfl))) (mvT hZ (hw _ (List.mem_of_getElem? (i := 56) rfl))) (by decide) (backOf (W := 0) (rm12 l Z a0 hw [] b7 v19 b8_0 (G3 (G1 (fun _ => (0 : Int32)) (0 : Int32) q1 p3) (((0 : Int32) + (f5 q1)) + (1 : Int32)) p4 p5) (jj p4) T21.heap n0 Z21 ((by subst hv19; exact (va2 (G1 (fun _ => (0 : Int32)) (0 : Int32) q1 p3) (((0 : Int32) + (f5 q1)) + (1 : Int32)) p4 p5 (own_sm (Sm.inc (szK (0 : Int32) (by decide) q1).1 (by decide)))).1) : ∀ i, i < (jj p4) → (G3 (G1 (fun _ => (0 : Int32)) (0 : Int32) q1 p3) (((0 : Int32) + (f5 q1)) + (1 : Int32)) p4 p5) (v19.toNatClampNeg + i) < 0) ((by subst hv19; exact (va2 (G1 (fun _ => (0 : Int32)) (0 : Int32) q1 p3) (((0 : Int32) + (f5 q1)) + (1 : Int32)) p4 p5 (own_sm (Sm.inc (szK (0 : Int32) (by decide) q1).1 (by decide)))).2.1) : ¬ (G3 (G1 (fun _ => (0 : Int32)) (0 : Int32) q1 p3) (((0 : Int32) + (f5 q1)) + (1 : Int32)) p4 p5) (v19.toNatClampNeg + (jj p4)) < 0) ((by subst hv19; exact (va2 (G1 (fun _ => (0 : Int32)) (0 : Int32) q1 p3) (((0 : Int32) + (f5 q1)) + (1 : Int32)) p4 p5 (own_sm (Sm.inc (szK (0 : Int32) (by decide) q1).1 (by decide)))).2.2.1) : 0 ≤ v19.toInt ∧ v19.toInt + (jj p4) < 256) Q21_1 Q21_3n) hZ (hw _ (List.mem_of_getElem? (i := 58) rfl)) (hw _ (List.mem_of_getElem? (i := 2) rfl)) (by decide) (by decide)) q28a q28c (g := (mkF m 153 #[.val (.long q1), .second, .val (.int p2), .val (.int p3), .val (.int p4), .val (.int p5), .val (.int p6), .val (.ref b7), .val (.int (0 : Int32)), .val (.int v16), .val (.int v19), .val (.int v22), .val (.int v23), .val (.long v25), .second] [(.int v19), (.ref b7)])) rfl (by rw [hml]; rfl) (Steps.refl _) (argsL := [(.int v19)]) (rest := []) (lenOf pd_8 rfl) rfl (by show 2 * 0 + _ ≤ _; exact Nat.le_of_eq rfl) (hb hby at_153) (fun _ _ => ⟨rfl, e26, (by decide : 2 + 0 ≤ _), (by decide : 258 + 0 ≤ _)⟩)
        dsimp only [Pt.U, Pt.locs, Pt.cells, Pt.slots] at X28 l28 y28 z28 st28 hQ28
        subst l28 y28 z28
        obtain ⟨rfl, N28q, e28⟩ := hQ28
        have N28 := Fr.app N26 N28q
        refine Go.trans st28 ?_
        show Go p e below _ (T28.setTop (mkF m 156 #[.val (.long q1), .second, .val (.int p2), .val (.int p3), .val (.int p4), .val (.int p5), .val (.int p6), .val (.ref b7), .val (.int (0 : Int32)), .val (.int v16), .val (.int v19), .val (.int v22), .val (.int v23), .val (.long v25), .second] [(.long (vaR (jj p4) (G3 (G1 (fun _ => (0 : Int32)) (0 : Int32) q1 p3) (((0 : Int32) + (f5 q1)) + (1 : Int32)) p4 p5) v19 (0 : Int32) (0 : Int64)))]))
        refine Go.step (fun t k => XS.lload X28.here hx rfl (hb hby at_156) rfl k) ?_
        show Go p e below _ (T28.setTop (mkF m 158 #[.val (.long q1), .second, .val (.int p2), .val (.int p3), .val (.int p4), .val (.int p5), .val (.int p6), .val (.ref b7), .val (.int (0 : Int32)), .val (.int v16), .val (.int v19), .val (.int v22), .val (.int v23), .val (.long v25), .second] [(.long v25), (.long (vaR (jj p4) (G3 (G1 (fun _ => (0 : Int32)) (0 : Int32) q1 p3) (((0 : Int32) + (f5 q1)) + (1 : Int32)) p4 p5) v19 (0 : Int32) (0 : Int64)))]))
        refine Go.step (fun t k => XS.lcmp X28.here hx rfl (hb hby at_158) rfl k) ?_
        show Go p e below _ (T28.setTop (mkF m 159 #[.val (.long q1), .second, .val (.int p2), .val (.int p3), .val (.int p4), .val (.int p5), .val (.int p6), .val (.ref b7), .val (.int (0 : Int32)), .val (.int v16), .val (.int v19), .val (.int v22), .val (.int v23), .val (.long v25), .second] [(.int (lcmpW (vaR (jj p4) (G3 (G1 (fun _ => (0 : Int32)) (0 : Int32) q1 p3) (((0 : Int32) + (f5 q1)) + (1 : Int32)) p4 p5) v19 (0 : Int32) (0 : Int64)) v25))]))
        by_cases hc29 : (vaR (jj p4) (G3 (G1 (fun _ => (0 : Int32)) (0 : Int32) q1 p3) (((0 : Int32) + (f5 q1)) + (1 : Int32)) p4 p5) v19 (0 : Int32) (0 : Int64)) = v25
        · refine Go.step (fun t k => XS.ifNo X28.here hx rfl (hb hby at_159) rfl ((if0 _ _).trans (teq ((lw_eq _ _).mpr hc29)).2) k) ?_
          show Go p e below _ (T28.setTop (mkF m 162 #[.val (.long q1), .second, .val (.int p2), .val (.int p3), .val (.int p4), .val (.int p5), .val (.int p6), .val (.ref b7), .val (.int (0 : Int32)), .val (.int v16), .val (.int v19), .val (.int v22), .val (.int v23), .val (.long v25), .second] []))
          refine Go.step (fun t k => XS.iconst X28.here hx rfl (hb hby at_162)  k) ?_
          show Go p e below _ (T28.setTop (mkF m 163 #[.val (.long q1), .second, .val (.int p2), .val (.int p3), .val (.int p4), .val (.int p5), .val (.int p6), .val (.ref b7), .val (.int (0 : Int32)), .val (.int v16), .val (.int v19), .val (.int v22), .val (.int v23), .val (.long v25), .second] [(.int (1 : Int32))]))
          refine Go.step (fun t k => XS.goto X28.here hx rfl (pc0 := 163) (pc' := 167) rfl (hb hby at_163) (by decide) (by decide) k) ?_
          show Go p e below _ (T28.setTop (mkF m 167 #[.val (.long q1), .second, .val (.int p2), .val (.int p3), .val (.int p4), .val (.int p5), .val (.int p6), .val (.ref b7), .val (.int (0 : Int32)), .val (.int v16), .val (.int v19), .val (.int v22), .val (.int v23), .val (.long v25), .second] [(.int (1 : Int32))]))
          subst hv25
          subst hv23
          subst hv22
          subst hv19
          subst hv16
          exact retGN X28 hx Bd.notSynchronized Bd.returns (t := .boolean) (by simp) (z' := (1 : Int32)) rfl (hb hby at_167) ⟨by first | (simp only [f0, if_pos hc9, if_pos hc10, if_neg hc27, if_pos hc29]; done) | rfl | (simp [f0, if_pos hc9, if_pos hc10, if_neg hc27, if_pos hc29]; done), N28⟩ (by decide) (by decide)
        · refine Go.step (fun t k => XS.ifYes X28.here hx rfl (pc0 := 159) (pc' := 166) rfl (hb hby at_159) rfl ((if0 _ _).trans (feq (fun q => hc29 ((lw_eq _ _).mp q))).2) (by decide) (by decide) k) ?_
          show Go p e below _ (T28.setTop (mkF m 166 #[.val (.long q1), .second, .val (.int p2), .val (.int p3), .val (.int p4), .val (.int p5), .val (.int p6), .val (.ref b7), .val (.int (0 : Int32)), .val (.int v16), .val (.int v19), .val (.int v22), .val (.int v23), .val (.long v25), .second] []))
          refine Go.step (fun t k => XS.iconst X28.here hx rfl (hb hby at_166)  k) ?_
          show Go p e below _ (T28.setTop (mkF m 167 #[.val (.long q1), .second, .val (.int p2), .val (.int p3), .val (.int p4), .val (.int p5), .val (.int p6), .val (.ref b7), .val (.int (0 : Int32)), .val (.int v16), .val (.int v19), .val (.int v22), .val (.int v23), .val (.long v25), .second] [(.int (0 : Int32))]))
          subst hv25
          subst hv23
          subst hv22
          subst hv19
          subst hv16
          exact retGN X28 hx Bd.notSynchronized Bd.returns (t := .boolean) (by simp) (z' := (0 : Int32)) rfl (hb hby at_167) ⟨by first | (simp only [f0, if_pos hc9, if_pos hc10, if_neg hc27, if_neg hc29]; done) | rfl | (simp [f0, if_pos hc9, if_pos hc10, if_neg hc27, if_neg hc29]; done), N28⟩ (by decide) (by decide)
    · refine Go.step (fun t k => XS.ifNo X8.here hx rfl (hb hby at_26) rfl ((if0 _ _).trans (feq hc10).1) k) ?_
      show Go p e below _ (T8.setTop (mkF m 29 #[.val (.long q1), .second, .val (.int p2), .val (.int p3), .val (.int p4), .val (.int p5), .val (.int p6), .val (.ref b7), .unset, .unset, .unset, .unset, .unset, .unset, .unset] []))
      refine Go.step (fun t k => XS.aload X8.here hx rfl (hb hby at_29) rfl rfl k) ?_
      show Go p e below _ (T8.setTop (mkF m 31 #[.val (.long q1), .second, .val (.int p2), .val (.int p3), .val (.int p4), .val (.int p5), .val (.int p6), .val (.ref b7), .unset, .unset, .unset, .unset, .unset, .unset, .unset] [(.ref b7)]))
      refine Go.step (fun t k => XS.iloadN X8.here hx rfl (hb hby at_31) rfl k) ?_
      show Go p e below _ (T8.setTop (mkF m 32 #[.val (.long q1), .second, .val (.int p2), .val (.int p3), .val (.int p4), .val (.int p5), .val (.int p6), .val (.ref b7), .unset, .unset, .unset, .unset, .unset, .unset, .unset] [(.int p2), (.ref b7)]))
      refine Go.step (fun t k => XS.bipush X8.here hx rfl (hb hby at_32)  k) ?_
      show Go p e below _ (T8.setTop (mkF m 34 #[.val (.long q1), .second, .val (.int p2), .val (.int p3), .val (.int p4), .val (.int p5), .val (.int p6), .val (.ref b7), .unset, .unset, .unset, .unset, .unset, .unset, .unset] [(.int (8 : Int32)), (.int p2), (.ref b7)]))
      refine Go.step (fun t k => XS.ishr X8.here hx rfl (hb hby at_34) rfl k) ?_
      show Go p e below _ (T8.setTop (mkF m 35 #[.val (.long q1), .second, .val (.int p2), .val (.int p3), .val (.int p4), .val (.int p5), .val (.int p6), .val (.ref b7), .unset, .unset, .unset, .unset, .unset, .unset, .unset] [(.int (p2 >>> ((8 : Int32) &&& 31))), (.ref b7)]))
      obtain ⟨cq30, kq30, q30a, q30b, q30c⟩ := isOf hZ rfl Q8_1
      obtain ⟨_, _, ⟨T30, L30, k30, n30⟩, -, X30, ⟨Lc30, hQ30, l30, y30, z30⟩, st30⟩ := X8.virtualBack hx (y := (⟨"com/example/tinwire/tinwire/codec/ByteOutput", "writeByte", "(I)V"⟩ : MethodName)) (z := (⟨"com/example/tinwire/tinwire/codec/ByteOutput", "writeByte", "(I)V"⟩ : MethodName)) hown (mvT hZ (hw _ (List.mem_of_getElem? (i := 49) rfl))) (mvT hZ (hw _ (List.mem_of_getElem? (i := 50) rfl))) (notFace_of_selects (args := #[]) (mvT hZ (hw _ (List.mem_of_getElem? (i := 52) rfl)))) (mvT hZ (hw _ (List.mem_of_getElem? (i := 52) rfl))) (mvT hZ (hw _ (List.mem_of_getElem? (i := 51) rfl))) (by decide) (backOf (W := 0) (rm11 l Z a0 hw [] b7 (p2 >>> ((8 : Int32) &&& 31)) (0 : Int32) b8_0 (fun _ => (0 : Int32)) T8.heap n0 Z8 Q8_0 Q8_2 Q8_3 ((by decide) : ¬ ((256 : Int64) < (((0 : Int32).toInt64) + (1 : Int64)))) Q8_1 g_b7 (Ne.symm ne_b7_b8_0) g_b8_0 ((by decide) : ¬ (0 : Int32) < 0) ((by decide) : (0 : Int32).toNatClampNeg < 256) ne_b7_b8_0) hZ (hw _ (List.mem_of_getElem? (i := 53) rfl)) (hw _ (List.mem_of_getElem? (i := 2) rfl)) (by decide) (by decide)) q30a q30c (g := (mkF m 35 #[.val (.long q1), .second, .val (.int p2), .val (.int p3), .val (.int p4), .val (.int p5), .val (.int p6), .val (.ref b7), .unset, .unset, .unset, .unset, .unset, .unset, .unset] [(.int (p2 >>> ((8 : Int32) &&& 31))), (.ref b7)])) rfl (by rw [hml]; rfl) (Steps.refl _) (argsL := [(.int (p2 >>> ((8 : Int32) &&& 31)))]) (rest := []) (lenOf pd_7 rfl) rfl (by show 2 * 0 + _ ≤ _; exact Nat.le_of_eq rfl) (hb hby at_35) (fun _ _ => ⟨rfl, rfl, (by decide : 2 + 0 ≤ _), (by decide : 258 + 0 ≤ _)⟩)
      dsimp only [Pt.U, Pt.locs, Pt.cells, Pt.slots] at X30 l30 y30 z30 st30 hQ30
      subst l30 y30 z30
      obtain ⟨rfl, N30q, K30, Q30_0, Q30_1, Q30_2, Q30_3⟩ := hQ30
      have N30 := Fr.app N8 N30q
      have E_b7_30 := Q8_1.keep K30
      have Z30 := Nat.le_trans Z8 K30.1
      have KK30 : Keep h0 T30.heap [] := KK8.trans K30 (allS (Or.inr sz_b7) (allS (Or.inr sz_b8_0) all0))
      refine Go.trans st30 ?_
      show Go p e below _ (T30.setTop (mkF m 38 #[.val (.long q1), .second, .val (.int p2), .val (.int p3), .val (.int p4), .val (.int p5), .val (.int p6), .val (.ref b7), .unset, .unset, .unset, .unset, .unset, .unset, .unset] []))
      refine Go.step (fun t k => XS.aload X30.here hx rfl (hb hby at_38) rfl rfl k) ?_
      show Go p e below _ (T30.setTop (mkF m 40 #[.val (.long q1), .second, .val (.int p2), .val (.int p3), .val (.int p4), .val (.int p5), .val (.int p6), .val (.ref b7), .unset, .unset, .unset, .unset, .unset, .unset, .unset] [(.ref b7)]))
      obtain ⟨cq31, kq31, q31a, q31b, q31c⟩ := isOf hZ rfl Q30_2
      obtain ⟨_, _, ⟨T31, L31, k31, n31⟩, -, X31, ⟨Lc31, hQ31, l31, y31, z31⟩, st31⟩ := X30.virtualBack hx (y := (⟨"com/example/tinwire/tinwire/codec/ByteOutput", "size", "()I"⟩ : MethodName)) (z := (⟨"com/example/tinwire/tinwire/codec/ByteOutput", "size", "()I"⟩ : MethodName)) hown (mvT hZ (hw _ (List.mem_of_getElem? (i := 12) rfl))) (mvT hZ (hw _ (List.mem_of_getElem? (i := 13) rfl))) (notFace_of_selects (args := #[]) (mvT hZ (hw _ (List.mem_of_getElem? (i := 15) rfl)))) (mvT hZ (hw _ (List.mem_of_getElem? (i := 15) rfl))) (mvT hZ (hw _ (List.mem_of_getElem? (i := 14) rfl))) (by decide) (backOf (W := 0) (rm3 l Z a0 hw [] b7 (1 : Int32) T30.heap n0 Z30 Q30_0) hZ (hw _ (List.mem_of_getElem? (i := 16) rfl)) (hw _ (List.mem_of_getElem? (i := 2) rfl)) (by decide) (by decide)) q31a q31c (g := (mkF m 40 #[.val (.long q1), .second, .val (.int p2), .val (.int p3), .val (.int p4), .val (.int p5), .val (.int p6), .val (.ref b7), .unset, .unset, .unset, .unset, .unset, .unset, .unset] [(.ref b7)])) rfl (by rw [hml]; rfl) (Steps.refl _) (argsL := []) (rest := []) (lenOf pd_6 rfl) rfl (by show 2 * 0 + _ ≤ _; exact Nat.le_of_eq rfl) (hb hby at_40) (fun _ _ => ⟨rfl, rfl, (by decide : 2 + 0 ≤ _), (by decide : 258 + 0 ≤ _)⟩)
      dsimp only [Pt.U, Pt.locs, Pt.cells, Pt.slots] at X31 l31 y31 z31 st31 hQ31
      subst l31 y31 z31
      obtain ⟨rfl, N31q, e31⟩ := hQ31
      have N31 := Fr.app N30 N31q
      refine Go.trans st31 ?_
      show Go p e below _ (T31.setTop (mkF m 43 #[.val (.long q1), .second, .val (.int p2), .val (.int p3), .val (.int p4), .val (.int p5), .val (.int p6), .val (.ref b7), .unset, .unset, .unset, .unset, .unset, .unset, .unset] [(.int (1 : Int32))]))
      refine Go.step (fun t k => XS.istore X31.here hx rfl (hb hby at_43) rfl (l' := #[.val (.long q1), .second, .val (.int p2), .val (.int p3), .val (.int p4), .val (.int p5), .val (.int p6), .val (.ref b7), .val (.int (1 : Int32)), .unset, .unset, .unset, .unset, .unset, .unset]) rfl k) ?_
      show Go p e below _ (T31.setTop (mkF m 45 #[.val (.long q1), .second, .val (.int p2), .val (.int p3), .val (.int p4), .val (.int p5), .val (.int p6), .val (.ref b7), .val (.int (1 : Int32)), .unset, .unset, .unset, .unset, .unset, .unset] []))
      refine Go.step (fun t k => XS.aload X31.here hx rfl (hb hby at_45) rfl rfl k) ?_
      show Go p e below _ (T31.setTop (mkF m 47 #[.val (.long q1), .second, .val (.int p2), .val (.int p3), .val (.int p4), .val (.int p5), .val (.int p6), .val (.ref b7), .val (.int (1 : Int32)), .unset, .unset, .unset, .unset, .unset, .unset] [(.ref b7)]))
      refine Go.step (fun t k => XS.lloadN X31.here hx rfl (hb hby at_47) rfl k) ?_
      show Go p e below _ (T31.setTop (mkF m 48 #[.val (.long q1), .second, .val (.int p2), .val (.int p3), .val (.int p4), .val (.int p5), .val (.int p6), .val (.ref b7), .val (.int (1 : Int32)), .unset, .unset, .unset, .unset, .unset, .unset] [(.long q1), (.ref b7)]))
      obtain ⟨cq32, kq32, q32a, q32b, q32c⟩ := isOf hZ e31 Q30_2
      obtain ⟨_, _, ⟨T32, L32, k32, n32⟩, -, X32, ⟨Lc32, hQ32, l32, y32, z32⟩, st32⟩ := X31.virtualBack hx (y := (⟨"com/example/tinwire/tinwire/codec/ByteOutput", "writeVarint", "(J)V"⟩ : MethodName)) (z := (⟨"com/example/tinwire/tinwire/codec/ByteOutput", "writeVarint", "(J)V"⟩ : MethodName)) hown (mvT hZ (hw _ (List.mem_of_getElem? (i := 19) rfl))) (mvT hZ (hw _ (List.mem_of_getElem? (i := 20) rfl))) (notFace_of_selects (args := #[]) (mvT hZ (hw _ (List.mem_of_getElem? (i := 22) rfl)))) (mvT hZ (hw _ (List.mem_of_getElem? (i := 22) rfl))) (mvT hZ (hw _ (List.mem_of_getElem? (i := 21) rfl))) (by decide) (backOf (W := 0) (rm4 l Z a0 hw [] b7 q1 (1 : Int32) b8_0 (upA (fun _ => (0 : Int32)) (0 : Int32).toNatClampNeg (nar .byte ((p2 >>> ((8 : Int32) &&& 31)).toInt8.toInt32))) T30.heap n0 Z30 ((by decide) : 0 ≤ (1 : Int32).toInt ∧ (1 : Int32).toInt + (9 : Nat) < 256) Q30_0 Q30_1 Q30_3 Q30_2 g_b8_0 ne_b7_b8_0 g_b7 (Ne.symm ne_b7_b8_0)) hZ (hw _ (List.mem_of_getElem? (i := 23) rfl)) (hw _ (List.mem_of_getElem? (i := 2) rfl)) (by decide) (by decide)) q32a q32c (g := (mkF m 48 #[.val (.long q1), .second, .val (.int p2), .val (.int p3), .val (.int p4), .val (.int p5), .val (.int p6), .val (.ref b7), .val (.int (1 : Int32)), .unset, .unset, .unset, .unset, .unset, .unset] [(.long q1), (.ref b7)])) rfl (by rw [hml]; rfl) (Steps.refl _) (argsL := [(.long q1)]) (rest := []) (lenOf pd_3 rfl) rfl (by show 2 * 0 + _ ≤ _; exact Nat.le_of_eq rfl) (hb hby at_48) (fun _ _ => ⟨rfl, e31, (by decide : 2 + 0 ≤ _), (by decide : 258 + 0 ≤ _)⟩)
      dsimp only [Pt.U, Pt.locs, Pt.cells, Pt.slots] at X32 l32 y32 z32 st32 hQ32
      subst l32 y32 z32
      obtain ⟨rfl, N32q, K32, Q32_0, Q32_1, Q32_2, Q32_3⟩ := hQ32
      have N32 := Fr.app N31 N32q
      have E_b7_32 := Q30_2.keep K32
      have Z32 := Nat.le_trans Z30 K32.1
      have KK32 : Keep h0 T32.heap [] := KK30.trans K32 (allS (Or.inr sz_b8_0) (allS (Or.inr sz_b7) all0))
      refine Go.trans st32 ?_
      show Go p e below _ (T32.setTop (mkF m 51 #[.val (.long q1), .second, .val (.int p2), .val (.int p3), .val (.int p4), .val (.int p5), .val (.int p6), .val (.ref b7), .val (.int (1 : Int32)), .unset, .unset, .unset, .unset, .unset, .unset] []))
      refine Go.step (fun t k => XS.aload X32.here hx rfl (hb hby at_51) rfl rfl k) ?_
      show Go p e below _ (T32.setTop (mkF m 53 #[.val (.long q1), .second, .val (.int p2), .val (.int p3), .val (.int p4), .val (.int p5), .val (.int p6), .val (.ref b7), .val (.int (1 : Int32)), .unset, .unset, .unset, .unset, .unset, .unset] [(.ref b7)]))
      refine Go.step (fun t k => XS.iloadN X32.here hx rfl (hb hby at_53) rfl k) ?_
      show Go p e below _ (T32.setTop (mkF m 54 #[.val (.long q1), .second, .val (.int p2), .val (.int p3), .val (.int p4), .val (.int p5), .val (.int p6), .val (.ref b7), .val (.int (1 : Int32)), .unset, .unset, .unset, .unset, .unset, .unset] [(.int p3), (.ref b7)]))
      obtain ⟨cq33, kq33, q33a, q33b, q33c⟩ := isOf hZ rfl Q32_2
      obtain ⟨_, _, ⟨T33, L33, k33, n33⟩, -, X33, ⟨Lc33, hQ33, l33, y33, z33⟩, st33⟩ := X32.virtualBack hx (y := (⟨"com/example/tinwire/tinwire/codec/ByteOutput", "writeByte", "(I)V"⟩ : MethodName)) (z := (⟨"com/example/tinwire/tinwire/codec/ByteOutput", "writeByte", "(I)V"⟩ : MethodName)) hown (mvT hZ (hw _ (List.mem_of_getElem? (i := 49) rfl))) (mvT hZ (hw _ (List.mem_of_getElem? (i := 50) rfl))) (notFace_of_selects (args := #[]) (mvT hZ (hw _ (List.mem_of_getElem? (i := 52) rfl)))) (mvT hZ (hw _ (List.mem_of_getElem? (i := 52) rfl))) (mvT hZ (hw _ (List.mem_of_getElem? (i := 51) rfl))) (by decide) (backOf (W := 0) (rm11 l Z a0 hw [] b7 p3 ((1 : Int32) + (f5 q1)) b8_0 (pvF 9 (upA (fun _ => (0 : Int32)) (0 : Int32).toNatClampNeg (nar .byte ((p2 >>> ((8 : Int32) &&& 31)).toInt8.toInt32))) (1 : Int32) q1) T32.heap n0 Z32 Q32_0 Q32_1 Q32_3 ((Sm.room (szK (1 : Int32) (by decide) q1).1 (by decide)) : ¬ ((256 : Int64) < ((((1 : Int32) + (f5 q1)).toInt64) + (1 : Int64)))) Q32_2 g_b7 (Ne.symm ne_b7_b8_0) g_b8_0 ((Sm.nn (szK (1 : Int32) (by decide) q1).1) : ¬ ((1 : Int32) + (f5 q1)) < 0) ((Sm.lt (szK (1 : Int32) (by decide) q1).1 (by decide)) : ((1 : Int32) + (f5 q1)).toNatClampNeg < 256) ne_b7_b8_0) hZ (hw _ (List.mem_of_getElem? (i := 53) rfl)) (hw _ (List.mem_of_getElem? (i := 2) rfl)) (by decide) (by decide)) q33a q33c (g := (mkF m 54 #[.val (.long q1), .second, .val (.int p2), .val (.int p3), .val (.int p4), .val (.int p5), .val (.int p6), .val (.ref b7), .val (.int (1 : Int32)), .unset, .unset, .unset, .unset, .unset, .unset] [(.int p3), (.ref b7)])) rfl (by rw [hml]; rfl) (Steps.refl _) (argsL := [(.int p3)]) (rest := []) (lenOf pd_7 rfl) rfl (by show 2 * 0 + _ ≤ _; exact Nat.le_of_eq rfl) (hb hby at_54) (fun _ _ => ⟨rfl, rfl, (by decide : 2 + 0 ≤ _), (by decide : 258 + 0 ≤ _)⟩)
      dsimp only [Pt.U, Pt.locs, Pt.cells, Pt.slots] at X33 l33 y33 z33 st33 hQ33
      subst l33 y33 z33
      obtain ⟨rfl, N33q, K33, Q33_0, Q33_1, Q33_2, Q33_3⟩ := hQ33
      have N33 := Fr.app N32 N33q
      have E_b7_33 := Q32_2.keep K33
      have Z33 := Nat.le_trans Z32 K33.1
      have KK33 : Keep h0 T33.heap [] := KK32.trans K33 (allS (Or.inr sz_b7) (allS (Or.inr sz_b8_0) all0))
      refine Go.trans st33 ?_
      show Go p e below _ (T33.setTop (mkF m 57 #[.val (.long q1), .second, .val (.int p2), .val (.int p3), .val (.int p4), .val (.int p5), .val (.int p6), .val (.ref b7), .val (.int (1 : Int32)), .unset, .unset, .unset, .unset, .unset, .unset] []))
      have Q33_3n : Ary Z T33.heap b8_0 .byte 256 (fun i => .int ((G1 (upA (fun _ => (0 : Int32)) (0 : Int32).toNatClampNeg (nar .byte ((p2 >>> ((8 : Int32) &&& 31)).toInt8.toInt32))) (1 : Int32) q1 p3) i)) := Q33_3
      show Go p e below _ (T33.setTop (mkF m 57 #[.val (.long q1), .second, .val (.int p2), .val (.int p3), .val (.int p4), .val (.int p5), .val (.int p6), .val (.ref b7), .val (.int (1 : Int32)), .unset, .unset, .unset, .unset, .unset, .unset] []))
      refine Go.step (fun t k => XS.aload X33.here hx rfl (hb hby at_57) rfl rfl k) ?_
      show Go p e below _ (T33.setTop (mkF m 59 #[.val (.long q1), .second, .val (.int p2), .val (.int p3), .val (.int p4), .val (.int p5), .val (.int p6), .val (.ref b7), .val (.int (1 : Int32)), .unset, .unset, .unset, .unset, .unset, .unset] [(.ref b7)]))
      refine Go.step (fun t k => XS.iload X33.here hx rfl (hb hby at_59) rfl k) ?_
      show Go p e below _ (T33.setTop (mkF m 61 #[.val (.long q1), .second, .val (.int p2), .val (.int p3), .val (.int p4), .val (.int p5), .val (.int p6), .val (.ref b7), .val (.int (1 : Int32)), .unset, .unset, .unset, .unset, .unset, .unset] [(.int (1 : Int32)), (.ref b7)]))
      obtain ⟨cq34, kq34, q34a, q34b, q34c⟩ := isOf hZ rfl Q33_2
      obtain ⟨_, _, ⟨T34, L34, k34, n34⟩, -, X34, ⟨Lc34, hQ34, l34, y34, z34⟩, st34⟩ := X33.virtualBack hx (y := (⟨"com/example/tinwire/tinwire/codec/ByteOutput", "varintAt", "(I)J"⟩ : MethodName)) (z := (⟨"com/example/tinwire/tinwire/codec/ByteOutput", "varintAt", "(I)J"⟩ : MethodName)) hown (mvT hZ (hw _ (List.mem_of_getElem? (i := 54) rfl))) (mvT hZ (hw _ (List.mem_of_getElem? (i := 55) rfl))) (notFace_of_selects (args := #[]) (mvT hZ (hw _ (List.mem_of_getElem? (i := 57) rfl)))) (mvT hZ (hw _ (List.mem_of_getElem? (i := 57) rfl))) (mvT hZ (hw _ (List.mem_of_getElem? (i := 56) rfl))) (by decide) (backOf (W := 0) (rm12 l Z a0 hw [] b7 (1 : Int32) b8_0 (G1 (upA (fun _ => (0 : Int32)) (0 : Int32).toNatClampNeg (nar .byte ((p2 >>> ((8 : Int32) &&& 31)).toInt8.toInt32))) (1 : Int32) q1 p3) ((f5 q1).toInt.toNat - 1 : Nat) T33.heap n0 Z33 ((va1 (upA (fun _ => (0 : Int32)) (0 : Int32).toNatClampNeg (nar .byte ((p2 >>> ((8 : Int32) &&& 31)).toInt8.toInt32))) (1 : Int32) (by decide) q1 p3).1 : ∀ i, i < ((f5 q1).toInt.toNat - 1 : Nat) → (G1 (upA (fun _ => (0 : Int32)) (0 : Int32).toNatClampNeg (nar .byte ((p2 >>> ((8 : Int32) &&& 31)).toInt8.toInt32))) (1 : Int32) q1 p3) ((1 : Int32).toNatClampNeg + i) < 0) ((va1 (upA (fun _ => (0 : Int32)) (0 : Int32).toNatClampNeg (nar .byte ((p2 >>> ((8 : Int32) &&& 31)).toInt8.toInt32))) (1 : Int32) (by decide) q1 p3).2.1 : ¬ (G1 (upA (fun _ => (0 : Int32)) (0 : Int32).toNatClampNeg (nar .byte ((p2 >>> ((8 : Int32) &&& 31)).toInt8.toInt32))) (1 : Int32) q1 p3) ((1 : Int32).toNatClampNeg + ((f5 q1).toInt.toNat - 1 : Nat)) < 0) ((va1 (upA (fun _ => (0 : Int32)) (0 : Int32).toNatClampNeg (nar .byte ((p2 >>> ((8 : Int32) &&& 31)).toInt8.toInt32))) (1 : Int32) (by decide) q1 p3).2.2.1 : 0 ≤ (1 : Int32).toInt ∧ (1 : Int32).toInt + ((f5 q1).toInt.toNat - 1 : Nat) < 256) Q33_1 Q33_3n) hZ (hw _ (List.mem_of_getElem? (i := 58) rfl)) (hw _ (List.mem_of_getElem? (i := 2) rfl)) (by decide) (by decide)) q34a q34c (g := (mkF m 61 #[.val (.long q1), .second, .val (.int p2), .val (.int p3), .val (.int p4), .val (.int p5), .val (.int p6), .val (.ref b7), .val (.int (1 : Int32)), .unset, .unset, .unset, .unset, .unset, .unset] [(.int (1 : Int32)), (.ref b7)])) rfl (by rw [hml]; rfl) (Steps.refl _) (argsL := [(.int (1 : Int32))]) (rest := []) (lenOf pd_8 rfl) rfl (by show 2 * 0 + _ ≤ _; exact Nat.le_of_eq rfl) (hb hby at_61) (fun _ _ => ⟨rfl, rfl, (by decide : 2 + 0 ≤ _), (by decide : 258 + 0 ≤ _)⟩)
      dsimp only [Pt.U, Pt.locs, Pt.cells, Pt.slots] at X34 l34 y34 z34 st34 hQ34
      subst l34 y34 z34
      obtain ⟨rfl, N34q, e34⟩ := hQ34
      have N34 := Fr.app N33 N34q
      refine Go.trans st34 ?_
      show Go p e below _ (T34.setTop (mkF m 64 #[.val (.long q1), .second, .val (.int p2), .val (.int p3), .val (.int p4), .val (.int p5), .val (.int p6), .val (.ref b7), .val (.int (1 : Int32)), .unset, .unset, .unset, .unset, .unset, .unset] [(.long (vaR ((f5 q1).toInt.toNat - 1 : Nat) (G1 (upA (fun _ => (0 : Int32)) (0 : Int32).toNatClampNeg (nar .byte ((p2 >>> ((8 : Int32) &&& 31)).toInt8.toInt32))) (1 : Int32) q1 p3) (1 : Int32) (0 : Int32) (0 : Int64)))]))
      refine Go.step (fun t k => XS.lloadN X34.here hx rfl (hb hby at_64) rfl k) ?_
      show Go p e below _ (T34.setTop (mkF m 65 #[.val (.long q1), .second, .val (.int p2), .val (.int p3), .val (.int p4), .val (.int p5), .val (.int p6), .val (.ref b7), .val (.int (1 : Int32)), .unset, .unset, .unset, .unset, .unset, .unset] [(.long q1), (.long (vaR ((f5 q1).toInt.toNat - 1 : Nat) (G1 (upA (fun _ => (0 : Int32)) (0 : Int32).toNatClampNeg (nar .byte ((p2 >>> ((8 : Int32) &&& 31)).toInt8.toInt32))) (1 : Int32) q1 p3) (1 : Int32) (0 : Int32) (0 : Int64)))]))
      refine Go.step (fun t k => XS.lcmp X34.here hx rfl (hb hby at_65) rfl k) ?_
      show Go p e below _ (T34.setTop (mkF m 66 #[.val (.long q1), .second, .val (.int p2), .val (.int p3), .val (.int p4), .val (.int p5), .val (.int p6), .val (.ref b7), .val (.int (1 : Int32)), .unset, .unset, .unset, .unset, .unset, .unset] [(.int (lcmpW (vaR ((f5 q1).toInt.toNat - 1 : Nat) (G1 (upA (fun _ => (0 : Int32)) (0 : Int32).toNatClampNeg (nar .byte ((p2 >>> ((8 : Int32) &&& 31)).toInt8.toInt32))) (1 : Int32) q1 p3) (1 : Int32) (0 : Int32) (0 : Int64)) q1))]))
      obtain ⟨v36, hv36⟩ : ∃ z : Int32, z = (if (vaR ((f5 q1).toInt.toNat - 1 : Nat) (G1 (upA (fun _ => (0 : Int32)) (0 : Int32).toNatClampNeg (nar .byte ((p2 >>> ((8 : Int32) &&& 31)).toInt8.toInt32))) (1 : Int32) q1 p3) (1 : Int32) (0 : Int32) (0 : Int64)) = q1 then (1 : Int32) else (0 : Int32)) := ⟨_, rfl⟩
      have J66 : Go p e below (AtF p l e room_1 s m #[(.long q1), (.int p2), (.int p3), (.int p4), (.int p5), (.int p6)] below meth c n0 2 258 T33.heap (mkF m 74 #[.val (.long q1), .second, .val (.int p2), .val (.int p3), .val (.int p4), .val (.int p5), .val (.int p6), .val (.ref b7), .val (.int (1 : Int32)), .unset, .unset, .unset, .unset, .unset, .unset] [(.int v36)])) (T34.setTop (mkF m 66 #[.val (.long q1), .second, .val (.int p2), .val (.int p3), .val (.int p4), .val (.int p5), .val (.int p6), .val (.ref b7), .val (.int (1 : Int32)), .unset, .unset, .unset, .unset, .unset, .unset] [(.int (lcmpW (vaR ((f5 q1).toInt.toNat - 1 : Nat) (G1 (upA (fun _ => (0 : Int32)) (0 : Int32).toNatClampNeg (nar .byte ((p2 >>> ((8 : Int32) &&& 31)).toInt8.toInt32))) (1 : Int32) q1 p3) (1 : Int32) (0 : Int32) (0 : Int64)) q1))])) := by
        by_cases hc35 : (vaR ((f5 q1).toInt.toNat - 1 : Nat) (G1 (upA (fun _ => (0 : Int32)) (0 : Int32).toNatClampNeg (nar .byte ((p2 >>> ((8 : Int32) &&& 31)).toInt8.toInt32))) (1 : Int32) q1 p3) (1 : Int32) (0 : Int32) (0 : Int64)) = q1
        · refine Go.step (fun t k => XS.ifNo X34.here hx rfl (hb hby at_66) rfl ((if0 _ _).trans (teq ((lw_eq _ _).mpr hc35)).2) k) ?_
          show Go p e below _ (T34.setTop (mkF m 69 #[.val (.long q1), .second, .val (.int p2), .val (.int p3), .val (.int p4), .val (.int p5), .val (.int p6), .val (.ref b7), .val (.int (1 : Int32)), .unset, .unset, .unset, .unset, .unset, .unset] []))
          refine Go.step (fun t k => XS.iconst X34.here hx rfl (hb hby at_69)  k) ?_
          show Go p e below _ (T34.setTop (mkF m 70 #[.val (.long q1), .second, .val (.int p2), .val (.int p3), .val (.int p4), .val (.int p5), .val (.int p6), .val (.ref b7), .val (.int (1 : Int32)), .unset, .unset, .unset, .unset, .unset, .unset] [(.int (1 : Int32))]))
          refine Go.step (fun t k => XS.goto X34.here hx rfl (pc0 := 70) (pc' := 74) rfl (hb hby at_70) (by decide) (by decide) k) ?_
          show Go p e below _ (T34.setTop (mkF m 74 #[.val (.long q1), .second, .val (.int p2), .val (.int p3), .val (.int p4), .val (.int p5), .val (.int p6), .val (.ref b7), .val (.int (1 : Int32)), .unset, .unset, .unset, .unset, .unset, .unset] [(.int (1 : Int32))]))
          exact Go.here ⟨_, _, by simp only [hv36, if_pos hc35], X34, N34, e34⟩
        · refine Go.step (fun t k => XS.ifYes X34.here hx rfl (pc0 := 66) (pc' := 73) rfl (hb hby at_66) rfl ((if0 _ _).trans (feq (fun q => hc35 ((lw_eq _ _).mp q))).2) (by decide) (by decide) k) ?_
          show Go p e below _ (T34.setTop (mkF m 73 #[.val (.long q1), .second, .val (.int p2), .val (.int p3), .val (.int p4), .val (.int p5), .val (.int p6), .val (.ref b7), .val (.int (1 : Int32)), .unset, .unset, .unset, .unset, .unset, .unset] []))
          refine Go.step (fun t k => XS.iconst X34.here hx rfl (hb hby at_73)  k) ?_
          show Go p e below _ (T34.setTop (mkF m 74 #[.val (.long q1), .second, .val (.int p2), .val (.int p3), .val (.int p4), .val (.int p5), .val (.int p6), .val (.ref b7), .val (.int (1 : Int32)), .unset, .unset, .unset, .unset, .unset, .unset] [(.int (0 : Int32))]))
          exact Go.here ⟨_, _, by simp only [hv36, if_neg hc35], X34, N34, e34⟩
      obtain ⟨_, st37, T37, Lj37, rfl, X37, N37, e37⟩ := J66
      refine Go.trans st37 ?_
      show Go p e below _ (T37.setTop (mkF m 74 #[.val (.long q1), .second, .val (.int p2), .val (.int p3), .val (.int p4), .val (.int p5), .val (.int p6), .val (.ref b7), .val (.int (1 : Int32)), .unset, .unset, .unset, .unset, .unset, .unset] [(.int v36)]))
      refine Go.step (fun t k => XS.istore X37.here hx rfl (hb hby at_74) rfl (l' := #[.val (.long q1), .second, .val (.int p2), .val (.int p3), .val (.int p4), .val (.int p5), .val (.int p6), .val (.ref b7), .val (.int (1 : Int32)), .val (.int v36), .unset, .unset, .unset, .unset, .unset]) rfl k) ?_
      show Go p e below _ (T37.setTop (mkF m 76 #[.val (.long q1), .second, .val (.int p2), .val (.int p3), .val (.int p4), .val (.int p5), .val (.int p6), .val (.ref b7), .val (.int (1 : Int32)), .val (.int v36), .unset, .unset, .unset, .unset, .unset] []))
      refine Go.step (fun t k => XS.aload X37.here hx rfl (hb hby at_76) rfl rfl k) ?_
      show Go p e below _ (T37.setTop (mkF m 78 #[.val (.long q1), .second, .val (.int p2), .val (.int p3), .val (.int p4), .val (.int p5), .val (.int p6), .val (.ref b7), .val (.int (1 : Int32)), .val (.int v36), .unset, .unset, .unset, .unset, .unset] [(.ref b7)]))
      obtain ⟨cq38, kq38, q38a, q38b, q38c⟩ := isOf hZ e37 Q33_2
      obtain ⟨_, _, ⟨T38, L38, k38, n38⟩, -, X38, ⟨Lc38, hQ38, l38, y38, z38⟩, st38⟩ := X37.virtualBack hx (y := (⟨"com/example/tinwire/tinwire/codec/ByteOutput", "size", "()I"⟩ : MethodName)) (z := (⟨"com/example/tinwire/tinwire/codec/ByteOutput", "size", "()I"⟩ : MethodName)) hown (mvT hZ (hw _ (List.mem_of_getElem? (i := 12) rfl))) (mvT hZ (hw _ (List.mem_of_getElem? (i := 13) rfl))) (notFace_of_selects (args := #[]) (mvT hZ (hw _ (List.mem_of_getElem? (i := 15) rfl)))) (mvT hZ (hw _ (List.mem_of_getElem? (i := 15) rfl))) (mvT hZ (hw _ (List.mem_of_getElem? (i := 14) rfl))) (by decide) (backOf (W := 0) (rm3 l Z a0 hw [] b7 (((1 : Int32) + (f5 q1)) + (1 : Int32)) T33.heap n0 Z33 Q33_0) hZ (hw _ (List.mem_of_getElem? (i := 16) rfl)) (hw _ (List.mem_of_getElem? (i := 2) rfl)) (by decide) (by decide)) q38a q38c (g := (mkF m 78 #[.val (.long q1), .second, .val (.int p2), .val (.int p3), .val (.int p4), .val (.int p5), .val (.int p6), .val (.ref b7), .val (.int (1 : Int32)), .val (.int v36), .unset, .unset, .unset, .unset, .unset] [(.ref b7)])) rfl (by rw [hml]; rfl) (Steps.refl _) (argsL := []) (rest := []) (lenOf pd_6 rfl) rfl (by show 2 * 0 + _ ≤ _; exact Nat.le_of_eq rfl) (hb hby at_78) (fun _ _ => ⟨rfl, e37, (by decide : 2 + 0 ≤ _), (by decide : 258 + 0 ≤ _)⟩)
      dsimp only [Pt.U, Pt.locs, Pt.cells, Pt.slots] at X38 l38 y38 z38 st38 hQ38
      subst l38 y38 z38
      obtain ⟨rfl, N38q, e38⟩ := hQ38
      have N38 := Fr.app N37 N38q
      refine Go.trans st38 ?_
      show Go p e below _ (T38.setTop (mkF m 81 #[.val (.long q1), .second, .val (.int p2), .val (.int p3), .val (.int p4), .val (.int p5), .val (.int p6), .val (.ref b7), .val (.int (1 : Int32)), .val (.int v36), .unset, .unset, .unset, .unset, .unset] [(.int (((1 : Int32) + (f5 q1)) + (1 : Int32)))]))
      obtain ⟨v39, hv39⟩ : ∃ z : Int32, z = (((1 : Int32) + (f5 q1)) + (1 : Int32)) := ⟨_, rfl⟩
      rw [← hv39]
      show Go p e below _ (T38.setTop (mkF m 81 #[.val (.long q1), .second, .val (.int p2), .val (.int p3), .val (.int p4), .val (.int p5), .val (.int p6), .val (.ref b7), .val (.int (1 : Int32)), .val (.int v36), .unset, .unset, .unset, .unset, .unset] [(.int v39)]))
      refine Go.step (fun t k => XS.istore X38.here hx rfl (hb hby at_81) rfl (l' := #[.val (.long q1), .second, .val (.int p2), .val (.int p3), .val (.int p4), .val (.int p5), .val (.int p6), .val (.ref b7), .val (.int (1 : Int32)), .val (.int v36), .val (.int v39), .unset, .unset, .unset, .unset]) rfl k) ?_
      show Go p e below _ (T38.setTop (mkF m 83 #[.val (.long q1), .second, .val (.int p2), .val (.int p3), .val (.int p4), .val (.int p5), .val (.int p6), .val (.ref b7), .val (.int (1 : Int32)), .val (.int v36), .val (.int v39), .unset, .unset, .unset, .unset] []))
      refine Go.step (fun t k => XS.aload X38.here hx rfl (hb hby at_83) rfl rfl k) ?_
      show Go p e below _ (T38.setTop (mkF m 85 #[.val (.long q1), .second, .val (.int p2), .val (.int p3), .val (.int p4), .val (.int p5), .val (.int p6), .val (.ref b7), .val (.int (1 : Int32)), .val (.int v36), .val (.int v39), .unset, .unset, .unset, .unset] [(.ref b7)]))
      refine Go.step (fun t k => XS.iload X38.here hx rfl (hb hby at_85) rfl k) ?_
      show Go p e below _ (T38.setTop (mkF m 87 #[.val (.long q1), .second, .val (.int p2), .val (.int p3), .val (.int p4), .val (.int p5), .val (.int p6), .val (.ref b7), .val (.int (1 : Int32)), .val (.int v36), .val (.int v39), .unset, .unset, .unset, .unset] [(.int p4), (.ref b7)]))
      obtain ⟨cq40, kq40, q40a, q40b, q40c⟩ := isOf hZ e38 Q33_2
      obtain ⟨_, _, ⟨T40, L40, k40, n40⟩, -, X40, ⟨Lc40, hQ40, l40, y40, z40⟩, st40⟩ := X38.virtualBack hx (y := (⟨"com/example/tinwire/tinwire/codec/ByteOutput", "writeByte", "(I)V"⟩ : MethodName)) (z := (⟨"com/example/tinwire/tinwire/codec/ByteOutput", "writeByte", "(I)V"⟩ : MethodName)) hown (mvT hZ (hw _ (List.mem_of_getElem? (i := 49) rfl))) (mvT hZ (hw _ (List.mem_of_getElem? (i := 50) rfl))) (notFace_of_selects (args := #[]) (mvT hZ (hw _ (List.mem_of_getElem? (i := 52) rfl)))) (mvT hZ (hw _ (List.mem_of_getElem? (i := 52) rfl))) (mvT hZ (hw _ (List.mem_of_getElem? (i := 51) rfl))) (by decide) (backOf (W := 0) (rm11 l Z a0 hw [] b7 p4 (((1 : Int32) + (f5 q1)) + (1 : Int32)) b8_0 (G1 (upA (fun _ => (0 : Int32)) (0 : Int32).toNatClampNeg (nar .byte ((p2 >>> ((8 : Int32) &&& 31)).toInt8.toInt32))) (1 : Int32) q1 p3) T33.heap n0 Z33 Q33_0 Q33_1 Q33_3n ((Sm.room (Sm.inc (szK (1 : Int32) (by decide) q1).1 (by decide)) (by decide)) : ¬ ((256 : Int64) < (((((1 : Int32) + (f5 q1)) + (1 : Int32)).toInt64) + (1 : Int64)))) Q33_2 g_b7 (Ne.symm ne_b7_b8_0) g_b8_0 ((Sm.nn (Sm.inc (szK (1 : Int32) (by decide) q1).1 (by decide))) : ¬ (((1 : Int32) + (f5 q1)) + (1 : Int32)) < 0) ((Sm.lt (Sm.inc (szK (1 : Int32) (by decide) q1).1 (by decide)) (by decide)) : (((1 : Int32) + (f5 q1)) + (1 : Int32)).toNatClampNeg < 256) ne_b7_b8_0) hZ (hw _ (List.mem_of_getElem? (i := 53) rfl)) (hw _ (List.mem_of_getElem? (i := 2) rfl)) (by decide) (by decide)) q40a q40c (g := (mkF m 87 #[.val (.long q1), .second, .val (.int p2), .val (.int p3), .val (.int p4), .val (.int p5), .val (.int p6), .val (.ref b7), .val (.int (1 : Int32)), .val (.int v36), .val (.int v39), .unset, .unset, .unset, .unset] [(.int p4), (.ref b7)])) rfl (by rw [hml]; rfl) (Steps.refl _) (argsL := [(.int p4)]) (rest := []) (lenOf pd_7 rfl) rfl (by show 2 * 0 + _ ≤ _; exact Nat.le_of_eq rfl) (hb hby at_87) (fun _ _ => ⟨rfl, e38, (by decide : 2 + 0 ≤ _), (by decide : 258 + 0 ≤ _)⟩)
      dsimp only [Pt.U, Pt.locs, Pt.cells, Pt.slots] at X40 l40 y40 z40 st40 hQ40
      subst l40 y40 z40
      obtain ⟨rfl, N40q, K40, Q40_0, Q40_1, Q40_2, Q40_3⟩ := hQ40
      have N40 := Fr.app N38 N40q
      have E_b7_40 := Q33_2.keep K40
      have Z40 := Nat.le_trans Z33 K40.1
      have KK40 : Keep h0 T40.heap [] := KK33.trans K40 (allS (Or.inr sz_b7) (allS (Or.inr sz_b8_0) all0))
      refine Go.trans st40 ?_
      show Go p e below _ (T40.setTop (mkF m 90 #[.val (.long q1), .second, .val (.int p2), .val (.int p3), .val (.int p4), .val (.int p5), .val (.int p6), .val (.ref b7), .val (.int (1 : Int32)), .val (.int v36), .val (.int v39), .unset, .unset, .unset, .unset] []))
      refine Go.step (fun t k => XS.aload X40.here hx rfl (hb hby at_90) rfl rfl k) ?_
      show Go p e below _ (T40.setTop (mkF m 92 #[.val (.long q1), .second, .val (.int p2), .val (.int p3), .val (.int p4), .val (.int p5), .val (.int p6), .val (.ref b7), .val (.int (1 : Int32)), .val (.int v36), .val (.int v39), .unset, .unset, .unset, .unset] [(.ref b7)]))
      refine Go.step (fun t k => XS.iload X40.here hx rfl (hb hby at_92) rfl k) ?_
      show Go p e below _ (T40.setTop (mkF m 94 #[.val (.long q1), .second, .val (.int p2), .val (.int p3), .val (.int p4), .val (.int p5), .val (.int p6), .val (.ref b7), .val (.int (1 : Int32)), .val (.int v36), .val (.int v39), .unset, .unset, .unset, .unset] [(.int p5), (.ref b7)]))
      refine Go.step (fun t k => XS.bipush X40.here hx rfl (hb hby at_94)  k) ?_
      show Go p e below _ (T40.setTop (mkF m 96 #[.val (.long q1), .second, .val (.int p2), .val (.int p3), .val (.int p4), .val (.int p5), .val (.int p6), .val (.ref b7), .val (.int (1 : Int32)), .val (.int v36), .val (.int v39), .unset, .unset, .unset, .unset] [(.int (127 : Int32)), (.int p5), (.ref b7)]))
      refine Go.step (fun t k => XS.iand X40.here hx rfl (hb hby at_96) rfl k) ?_
      show Go p e below _ (T40.setTop (mkF m 97 #[.val (.long q1), .second, .val (.int p2), .val (.int p3), .val (.int p4), .val (.int p5), .val (.int p6), .val (.ref b7), .val (.int (1 : Int32)), .val (.int v36), .val (.int v39), .unset, .unset, .unset, .unset] [(.int (p5 &&& (127 : Int32))), (.ref b7)]))
      obtain ⟨cq41, kq41, q41a, q41b, q41c⟩ := isOf hZ rfl Q40_2
      obtain ⟨_, _, ⟨T41, L41, k41, n41⟩, -, X41, ⟨Lc41, hQ41, l41, y41, z41⟩, st41⟩ := X40.virtualBack hx (y := (⟨"com/example/tinwire/tinwire/codec/ByteOutput", "writeByte", "(I)V"⟩ : MethodName)) (z := (⟨"com/example/tinwire/tinwire/codec/ByteOutput", "writeByte", "(I)V"⟩ : MethodName)) hown (mvT hZ (hw _ (List.mem_of_getElem? (i := 49) rfl))) (mvT hZ (hw _ (List.mem_of_getElem? (i := 50) rfl))) (notFace_of_selects (args := #[]) (mvT hZ (hw _ (List.mem_of_getElem? (i := 52) rfl)))) (mvT hZ (hw _ (List.mem_of_getElem? (i := 52) rfl))) (mvT hZ (hw _ (List.mem_of_getElem? (i := 51) rfl))) (by decide) (backOf (W := 0) (rm11 l Z a0 hw [] b7 (p5 &&& (127 : Int32)) ((((1 : Int32) + (f5 q1)) + (1 : Int32)) + (1 : Int32)) b8_0 (upA (G1 (upA (fun _ => (0 : Int32)) (0 : Int32).toNatClampNeg (nar .byte ((p2 >>> ((8 : Int32) &&& 31)).toInt8.toInt32))) (1 : Int32) q1 p3) (((1 : Int32) + (f5 q1)) + (1 : Int32)).toNatClampNeg (nar .byte (p4.toInt8.toInt32))) T40.heap n0 Z40 Q40_0 Q40_1 Q40_3 ((Sm.room (Sm.inc (Sm.inc (szK (1 : Int32) (by decide) q1).1 (by decide)) (by decide)) (by decide)) : ¬ ((256 : Int64) < ((((((1 : Int32) + (f5 q1)) + (1 : Int32)) + (1 : Int32)).toInt64) + (1 : Int64)))) Q40_2 g_b7 (Ne.symm ne_b7_b8_0) g_b8_0 ((Sm.nn (Sm.inc (Sm.inc (szK (1 : Int32) (by decide) q1).1 (by decide)) (by decide))) : ¬ ((((1 : Int32) + (f5 q1)) + (1 : Int32)) + (1 : Int32)) < 0) ((Sm.lt (Sm.inc (Sm.inc (szK (1 : Int32) (by decide) q1).1 (by decide)) (by decide)) (by decide)) : ((((1 : Int32) + (f5 q1)) + (1 : Int32)) + (1 : Int32)).toNatClampNeg < 256) ne_b7_b8_0) hZ (hw _ (List.mem_of_getElem? (i := 53) rfl)) (hw _ (List.mem_of_getElem? (i := 2) rfl)) (by decide) (by decide)) q41a q41c (g := (mkF m 97 #[.val (.long q1), .second, .val (.int p2), .val (.int p3), .val (.int p4), .val (.int p5), .val (.int p6), .val (.ref b7), .val (.int (1 : Int32)), .val (.int v36), .val (.int v39), .unset, .unset, .unset, .unset] [(.int (p5 &&& (127 : Int32))), (.ref b7)])) rfl (by rw [hml]; rfl) (Steps.refl _) (argsL := [(.int (p5 &&& (127 : Int32)))]) (rest := []) (lenOf pd_7 rfl) rfl (by show 2 * 0 + _ ≤ _; exact Nat.le_of_eq rfl) (hb hby at_97) (fun _ _ => ⟨rfl, rfl, (by decide : 2 + 0 ≤ _), (by decide : 258 + 0 ≤ _)⟩)
      dsimp only [Pt.U, Pt.locs, Pt.cells, Pt.slots] at X41 l41 y41 z41 st41 hQ41
      subst l41 y41 z41
      obtain ⟨rfl, N41q, K41, Q41_0, Q41_1, Q41_2, Q41_3⟩ := hQ41
      have N41 := Fr.app N40 N41q
      have E_b7_41 := Q40_2.keep K41
      have Z41 := Nat.le_trans Z40 K41.1
      have KK41 : Keep h0 T41.heap [] := KK40.trans K41 (allS (Or.inr sz_b7) (allS (Or.inr sz_b8_0) all0))
      refine Go.trans st41 ?_
      show Go p e below _ (T41.setTop (mkF m 100 #[.val (.long q1), .second, .val (.int p2), .val (.int p3), .val (.int p4), .val (.int p5), .val (.int p6), .val (.ref b7), .val (.int (1 : Int32)), .val (.int v36), .val (.int v39), .unset, .unset, .unset, .unset] []))
      have Q41_3n : Ary Z T41.heap b8_0 .byte 256 (fun i => .int ((G3 (G1 (upA (fun _ => (0 : Int32)) (0 : Int32).toNatClampNeg (nar .byte ((p2 >>> ((8 : Int32) &&& 31)).toInt8.toInt32))) (1 : Int32) q1 p3) (((1 : Int32) + (f5 q1)) + (1 : Int32)) p4 p5) i)) := Q41_3
      show Go p e below _ (T41.setTop (mkF m 100 #[.val (.long q1), .second, .val (.int p2), .val (.int p3), .val (.int p4), .val (.int p5), .val (.int p6), .val (.ref b7), .val (.int (1 : Int32)), .val (.int v36), .val (.int v39), .unset, .unset, .unset, .unset] []))
      refine Go.step (fun t k => XS.iload X41.here hx rfl (hb hby at_100) rfl k) ?_
      show Go p e below _ (T41.setTop (mkF m 102 #[.val (.long q1), .second, .val (.int p2), .val (.int p3), .val (.int p4), .val (.int p5), .val (.int p6), .val (.ref b7), .val (.int (1 : Int32)), .val (.int v36), .val (.int v39), .unset, .unset, .unset, .unset] [(.int p4)]))
      refine Go.step (fun t k => XS.sipush X41.here hx rfl (hb hby at_102)  k) ?_
      show Go p e below _ (T41.setTop (mkF m 105 #[.val (.long q1), .second, .val (.int p2), .val (.int p3), .val (.int p4), .val (.int p5), .val (.int p6), .val (.ref b7), .val (.int (1 : Int32)), .val (.int v36), .val (.int v39), .unset, .unset, .unset, .unset] [(.int (255 : Int32)), (.int p4)]))
      refine Go.step (fun t k => XS.iand X41.here hx rfl (hb hby at_105) rfl k) ?_
      show Go p e below _ (T41.setTop (mkF m 106 #[.val (.long q1), .second, .val (.int p2), .val (.int p3), .val (.int p4), .val (.int p5), .val (.int p6), .val (.ref b7), .val (.int (1 : Int32)), .val (.int v36), .val (.int v39), .unset, .unset, .unset, .unset] [(.int (p4 &&& (255 : Int32)))]))
      obtain ⟨v42, hv42⟩ : ∃ z : Int32, z = (p4 &&& (255 : Int32)) := ⟨_, rfl⟩
      rw [← hv42]
      show Go p e below _ (T41.setTop (mkF m 106 #[.val (.long q1), .second, .val (.int p2), .val (.int p3), .val (.int p4), .val (.int p5), .val (.int p6), .val (.ref b7), .val (.int (1 : Int32)), .val (.int v36), .val (.int v39), .unset, .unset, .unset, .unset] [(.int v42)]))
      refine Go.step (fun t k => XS.istore X41.here hx rfl (hb hby at_106) rfl (l' := #[.val (.long q1), .second, .val (.int p2), .val (.int p3), .val (.int p4), .val (.int p5), .val (.int p6), .val (.ref b7), .val (.int (1 : Int32)), .val (.int v36), .val (.int v39), .val (.int v42), .unset, .unset, .unset]) rfl k) ?_
      show Go p e below _ (T41.setTop (mkF m 108 #[.val (.long q1), .second, .val (.int p2), .val (.int p3), .val (.int p4), .val (.int p5), .val (.int p6), .val (.ref b7), .val (.int (1 : Int32)), .val (.int v36), .val (.int v39), .val (.int v42), .unset, .unset, .unset] []))
      refine Go.step (fun t k => XS.iload X41.here hx rfl (hb hby at_108) rfl k) ?_
      show Go p e below _ (T41.setTop (mkF m 110 #[.val (.long q1), .second, .val (.int p2), .val (.int p3), .val (.int p4), .val (.int p5), .val (.int p6), .val (.ref b7), .val (.int (1 : Int32)), .val (.int v36), .val (.int v39), .val (.int v42), .unset, .unset, .unset] [(.int p5)]))
      refine Go.step (fun t k => XS.bipush X41.here hx rfl (hb hby at_110)  k) ?_
      show Go p e below _ (T41.setTop (mkF m 112 #[.val (.long q1), .second, .val (.int p2), .val (.int p3), .val (.int p4), .val (.int p5), .val (.int p6), .val (.ref b7), .val (.int (1 : Int32)), .val (.int v36), .val (.int v39), .val (.int v42), .unset, .unset, .unset] [(.int (127 : Int32)), (.int p5)]))
      refine Go.step (fun t k => XS.iand X41.here hx rfl (hb hby at_112) rfl k) ?_
      show Go p e below _ (T41.setTop (mkF m 113 #[.val (.long q1), .second, .val (.int p2), .val (.int p3), .val (.int p4), .val (.int p5), .val (.int p6), .val (.ref b7), .val (.int (1 : Int32)), .val (.int v36), .val (.int v39), .val (.int v42), .unset, .unset, .unset] [(.int (p5 &&& (127 : Int32)))]))
      obtain ⟨v43, hv43⟩ : ∃ z : Int32, z = (p5 &&& (127 : Int32)) := ⟨_, rfl⟩
      rw [← hv43]
      show Go p e below _ (T41.setTop (mkF m 113 #[.val (.long q1), .second, .val (.int p2), .val (.int p3), .val (.int p4), .val (.int p5), .val (.int p6), .val (.ref b7), .val (.int (1 : Int32)), .val (.int v36), .val (.int v39), .val (.int v42), .unset, .unset, .unset] [(.int v43)]))
      refine Go.step (fun t k => XS.istore X41.here hx rfl (hb hby at_113) rfl (l' := #[.val (.long q1), .second, .val (.int p2), .val (.int p3), .val (.int p4), .val (.int p5), .val (.int p6), .val (.ref b7), .val (.int (1 : Int32)), .val (.int v36), .val (.int v39), .val (.int v42), .val (.int v43), .unset, .unset]) rfl k) ?_
      show Go p e below _ (T41.setTop (mkF m 115 #[.val (.long q1), .second, .val (.int p2), .val (.int p3), .val (.int p4), .val (.int p5), .val (.int p6), .val (.ref b7), .val (.int (1 : Int32)), .val (.int v36), .val (.int v39), .val (.int v42), .val (.int v43), .unset, .unset] []))
      refine Go.step (fun t k => XS.iload X41.here hx rfl (hb hby at_115) rfl k) ?_
      show Go p e below _ (T41.setTop (mkF m 117 #[.val (.long q1), .second, .val (.int p2), .val (.int p3), .val (.int p4), .val (.int p5), .val (.int p6), .val (.ref b7), .val (.int (1 : Int32)), .val (.int v36), .val (.int v39), .val (.int v42), .val (.int v43), .unset, .unset] [(.int v42)]))
      refine Go.step (fun t k => XS.sipush X41.here hx rfl (hb hby at_117)  k) ?_
      show Go p e below _ (T41.setTop (mkF m 120 #[.val (.long q1), .second, .val (.int p2), .val (.int p3), .val (.int p4), .val (.int p5), .val (.int p6), .val (.ref b7), .val (.int (1 : Int32)), .val (.int v36), .val (.int v39), .val (.int v42), .val (.int v43), .unset, .unset] [(.int (128 : Int32)), (.int v42)]))
      obtain ⟨v45, hv45⟩ : ∃ z : Int64, z = (if v42 < (128 : Int32) then (v42.toInt64) else (((v42 &&& (127 : Int32)).toInt64) ||| ((v43.toInt64) <<< ((7 : Int32) &&& 0x3f).toInt64))) := ⟨_, rfl⟩
      have J120 : Go p e below (AtF p l e room_1 s m #[(.long q1), (.int p2), (.int p3), (.int p4), (.int p5), (.int p6)] below meth c n0 2 258 T41.heap (mkF m 142 #[.val (.long q1), .second, .val (.int p2), .val (.int p3), .val (.int p4), .val (.int p5), .val (.int p6), .val (.ref b7), .val (.int (1 : Int32)), .val (.int v36), .val (.int v39), .val (.int v42), .val (.int v43), .unset, .unset] [(.long v45)])) (T41.setTop (mkF m 120 #[.val (.long q1), .second, .val (.int p2), .val (.int p3), .val (.int p4), .val (.int p5), .val (.int p6), .val (.ref b7), .val (.int (1 : Int32)), .val (.int v36), .val (.int v39), .val (.int v42), .val (.int v43), .unset, .unset] [(.int (128 : Int32)), (.int v42)])) := by
        by_cases hc44 : v42 < (128 : Int32)
        · refine Go.step (fun t k => XS.icmpNo X41.here hx rfl (hb hby at_120) rfl (tlt hc44).2.1 k) ?_
          show Go p e below _ (T41.setTop (mkF m 123 #[.val (.long q1), .second, .val (.int p2), .val (.int p3), .val (.int p4), .val (.int p5), .val (.int p6), .val (.ref b7), .val (.int (1 : Int32)), .val (.int v36), .val (.int v39), .val (.int v42), .val (.int v43), .unset, .unset] []))
          refine Go.step (fun t k => XS.iload X41.here hx rfl (hb hby at_123) rfl k) ?_
          show Go p e below _ (T41.setTop (mkF m 125 #[.val (.long q1), .second, .val (.int p2), .val (.int p3), .val (.int p4), .val (.int p5), .val (.int p6), .val (.ref b7), .val (.int (1 : Int32)), .val (.int v36), .val (.int v39), .val (.int v42), .val (.int v43), .unset, .unset] [(.int v42)]))
          refine Go.step (fun t k => XS.i2l X41.here hx rfl (hb hby at_125) rfl k) ?_
          show Go p e below _ (T41.setTop (mkF m 126 #[.val (.long q1), .second, .val (.int p2), .val (.int p3), .val (.int p4), .val (.int p5), .val (.int p6), .val (.ref b7), .val (.int (1 : Int32)), .val (.int v36), .val (.int v39), .val (.int v42), .val (.int v43), .unset, .unset] [(.long (v42.toInt64))]))
          refine Go.step (fun t k => XS.goto X41.here hx rfl (pc0 := 126) (pc' := 142) rfl (hb hby at_126) (by decide) (by decide) k) ?_
          show Go p e below _ (T41.setTop (mkF m 142 #[.val (.long q1), .second, .val (.int p2), .val (.int p3), .val (.int p4), .val (.int p5), .val (.int p6), .val (.ref b7), .val (.int (1 : Int32)), .val (.int v36), .val (.int v39), .val (.int v42), .val (.int v43), .unset, .unset] [(.long (v42.toInt64))]))
          exact Go.here ⟨_, _, by simp only [hv45, if_pos hc44], X41, N41, rfl⟩
        · refine Go.step (fun t k => XS.icmpYes X41.here hx rfl (pc0 := 120) (pc' := 129) rfl (hb hby at_120) rfl (flt hc44).2.1 (by decide) (by decide) k) ?_
          show Go p e below _ (T41.setTop (mkF m 129 #[.val (.long q1), .second, .val (.int p2), .val (.int p3), .val (.int p4), .val (.int p5), .val (.int p6), .val (.ref b7), .val (.int (1 : Int32)), .val (.int v36), .val (.int v39), .val (.int v42), .val (.int v43), .unset, .unset] []))
          refine Go.step (fun t k => XS.iload X41.here hx rfl (hb hby at_129) rfl k) ?_
          show Go p e below _ (T41.setTop (mkF m 131 #[.val (.long q1), .second, .val (.int p2), .val (.int p3), .val (.int p4), .val (.int p5), .val (.int p6), .val (.ref b7), .val (.int (1 : Int32)), .val (.int v36), .val (.int v39), .val (.int v42), .val (.int v43), .unset, .unset] [(.int v42)]))
          refine Go.step (fun t k => XS.bipush X41.here hx rfl (hb hby at_131)  k) ?_
          show Go p e below _ (T41.setTop (mkF m 133 #[.val (.long q1), .second, .val (.int p2), .val (.int p3), .val (.int p4), .val (.int p5), .val (.int p6), .val (.ref b7), .val (.int (1 : Int32)), .val (.int v36), .val (.int v39), .val (.int v42), .val (.int v43), .unset, .unset] [(.int (127 : Int32)), (.int v42)]))
          refine Go.step (fun t k => XS.iand X41.here hx rfl (hb hby at_133) rfl k) ?_
          show Go p e below _ (T41.setTop (mkF m 134 #[.val (.long q1), .second, .val (.int p2), .val (.int p3), .val (.int p4), .val (.int p5), .val (.int p6), .val (.ref b7), .val (.int (1 : Int32)), .val (.int v36), .val (.int v39), .val (.int v42), .val (.int v43), .unset, .unset] [(.int (v42 &&& (127 : Int32)))]))
          refine Go.step (fun t k => XS.i2l X41.here hx rfl (hb hby at_134) rfl k) ?_
          show Go p e below _ (T41.setTop (mkF m 135 #[.val (.long q1), .second, .val (.int p2), .val (.int p3), .val (.int p4), .val (.int p5), .val (.int p6), .val (.ref b7), .val (.int (1 : Int32)), .val (.int v36), .val (.int v39), .val (.int v42), .val (.int v43), .unset, .unset] [(.long ((v42 &&& (127 : Int32)).toInt64))]))
          refine Go.step (fun t k => XS.iload X41.here hx rfl (hb hby at_135) rfl k) ?_
          show Go p e below _ (T41.setTop (mkF m 137 #[.val (.long q1), .second, .val (.int p2), .val (.int p3), .val (.int p4), .val (.int p5), .val (.int p6), .val (.ref b7), .val (.int (1 : Int32)), .val (.int v36), .val (.int v39), .val (.int v42), .val (.int v43), .unset, .unset] [(.int v43), (.long ((v42 &&& (127 : Int32)).toInt64))]))
          refine Go.step (fun t k => XS.i2l X41.here hx rfl (hb hby at_137) rfl k) ?_
          show Go p e below _ (T41.setTop (mkF m 138 #[.val (.long q1), .second, .val (.int p2), .val (.int p3), .val (.int p4), .val (.int p5), .val (.int p6), .val (.ref b7), .val (.int (1 : Int32)), .val (.int v36), .val (.int v39), .val (.int v42), .val (.int v43), .unset, .unset] [(.long (v43.toInt64)), (.long ((v42 &&& (127 : Int32)).toInt64))]))
          refine Go.step (fun t k => XS.bipush X41.here hx rfl (hb hby at_138)  k) ?_
          show Go p e below _ (T41.setTop (mkF m 140 #[.val (.long q1), .second, .val (.int p2), .val (.int p3), .val (.int p4), .val (.int p5), .val (.int p6), .val (.ref b7), .val (.int (1 : Int32)), .val (.int v36), .val (.int v39), .val (.int v42), .val (.int v43), .unset, .unset] [(.int (7 : Int32)), (.long (v43.toInt64)), (.long ((v42 &&& (127 : Int32)).toInt64))]))
          refine Go.step (fun t k => XS.lshl X41.here hx rfl (hb hby at_140) rfl k) ?_
          show Go p e below _ (T41.setTop (mkF m 141 #[.val (.long q1), .second, .val (.int p2), .val (.int p3), .val (.int p4), .val (.int p5), .val (.int p6), .val (.ref b7), .val (.int (1 : Int32)), .val (.int v36), .val (.int v39), .val (.int v42), .val (.int v43), .unset, .unset] [(.long ((v43.toInt64) <<< ((7 : Int32) &&& 0x3f).toInt64)), (.long ((v42 &&& (127 : Int32)).toInt64))]))
          refine Go.step (fun t k => XS.lor X41.here hx rfl (hb hby at_141) rfl k) ?_
          show Go p e below _ (T41.setTop (mkF m 142 #[.val (.long q1), .second, .val (.int p2), .val (.int p3), .val (.int p4), .val (.int p5), .val (.int p6), .val (.ref b7), .val (.int (1 : Int32)), .val (.int v36), .val (.int v39), .val (.int v42), .val (.int v43), .unset, .unset] [(.long (((v42 &&& (127 : Int32)).toInt64) ||| ((v43.toInt64) <<< ((7 : Int32) &&& 0x3f).toInt64)))]))
          exact Go.here ⟨_, _, by simp only [hv45, if_neg hc44], X41, N41, rfl⟩
      obtain ⟨_, st46, T46, Lj46, rfl, X46, N46, e46⟩ := J120
      refine Go.trans st46 ?_
      show Go p e below _ (T46.setTop (mkF m 142 #[.val (.long q1), .second, .val (.int p2), .val (.int p3), .val (.int p4), .val (.int p5), .val (.int p6), .val (.ref b7), .val (.int (1 : Int32)), .val (.int v36), .val (.int v39), .val (.int v42), .val (.int v43), .unset, .unset] [(.long v45)]))
      refine Go.step (fun t k => XS.lstore X46.here hx rfl (hb hby at_142) rfl (l' := #[.val (.long q1), .second, .val (.int p2), .val (.int p3), .val (.int p4), .val (.int p5), .val (.int p6), .val (.ref b7), .val (.int (1 : Int32)), .val (.int v36), .val (.int v39), .val (.int v42), .val (.int v43), .val (.long v45), .second]) rfl k) ?_
      show Go p e below _ (T46.setTop (mkF m 144 #[.val (.long q1), .second, .val (.int p2), .val (.int p3), .val (.int p4), .val (.int p5), .val (.int p6), .val (.ref b7), .val (.int (1 : Int32)), .val (.int v36), .val (.int v39), .val (.int v42), .val (.int v43), .val (.long v45), .second] []))
      refine Go.step (fun t k => XS.iload X46.here hx rfl (hb hby at_144) rfl k) ?_
      show Go p e below _ (T46.setTop (mkF m 146 #[.val (.long q1), .second, .val (.int p2), .val (.int p3), .val (.int p4), .val (.int p5), .val (.int p6), .val (.ref b7), .val (.int (1 : Int32)), .val (.int v36), .val (.int v39), .val (.int v42), .val (.int v43), .val (.long v45), .second] [(.int v36)]))
      by_cases hc47 : v36 = (0 : Int32)
      · refine Go.step (fun t k => XS.ifYes X46.here hx rfl (pc0 := 146) (pc' := 166) rfl (hb hby at_146) rfl ((if0 _ _).trans (teq hc47).1) (by decide) (by decide) k) ?_
        show Go p e below _ (T46.setTop (mkF m 166 #[.val (.long q1), .second, .val (.int p2), .val (.int p3), .val (.int p4), .val (.int p5), .val (.int p6), .val (.ref b7), .val (.int (1 : Int32)), .val (.int v36), .val (.int v39), .val (.int v42), .val (.int v43), .val (.long v45), .second] []))
        refine Go.step (fun t k => XS.iconst X46.here hx rfl (hb hby at_166)  k) ?_
        show Go p e below _ (T46.setTop (mkF m 167 #[.val (.long q1), .second, .val (.int p2), .val (.int p3), .val (.int p4), .val (.int p5), .val (.int p6), .val (.ref b7), .val (.int (1 : Int32)), .val (.int v36), .val (.int v39), .val (.int v42), .val (.int v43), .val (.long v45), .second] [(.int (0 : Int32))]))
        subst hv45
        subst hv43
        subst hv42
        subst hv39
        subst hv36
        exact retGN X46 hx Bd.notSynchronized Bd.returns (t := .boolean) (by simp) (z' := (0 : Int32)) rfl (hb hby at_167) ⟨by first | (simp only [f0, if_pos hc9, if_neg hc10, if_pos hc47]; done) | rfl | (simp [f0, if_pos hc9, if_neg hc10, if_pos hc47]; done), N46⟩ (by decide) (by decide)
      · refine Go.step (fun t k => XS.ifNo X46.here hx rfl (hb hby at_146) rfl ((if0 _ _).trans (feq hc47).1) k) ?_
        show Go p e below _ (T46.setTop (mkF m 149 #[.val (.long q1), .second, .val (.int p2), .val (.int p3), .val (.int p4), .val (.int p5), .val (.int p6), .val (.ref b7), .val (.int (1 : Int32)), .val (.int v36), .val (.int v39), .val (.int v42), .val (.int v43), .val (.long v45), .second] []))
        refine Go.step (fun t k => XS.aload X46.here hx rfl (hb hby at_149) rfl rfl k) ?_
        show Go p e below _ (T46.setTop (mkF m 151 #[.val (.long q1), .second, .val (.int p2), .val (.int p3), .val (.int p4), .val (.int p5), .val (.int p6), .val (.ref b7), .val (.int (1 : Int32)), .val (.int v36), .val (.int v39), .val (.int v42), .val (.int v43), .val (.long v45), .second] [(.ref b7)]))
        refine Go.step (fun t k => XS.iload X46.here hx rfl (hb hby at_151) rfl k) ?_
        show Go p e below _ (T46.setTop (mkF m 153 #[.val (.long q1), .second, .val (.int p2), .val (.int p3), .val (.int p4), .val (.int p5), .val (.int p6), .val (.ref b7), .val (.int (1 : Int32)), .val (.int v36), .val (.int v39), .val (.int v42), .val (.int v43), .val (.long v45), .second] [(.int v39), (.ref b7)]))
        obtain ⟨cq48, kq48, q48a, q48b, q48c⟩ := isOf hZ e46 Q41_2
        obtain ⟨_, _, ⟨T48, L48, k48, n48⟩, -, X48, ⟨Lc48, hQ48, l48, y48, z48⟩, st48⟩ := X46.virtualBack hx (y := (⟨"com/example/tinwire/tinwire/codec/ByteOutput", "varintAt", "(I)J"⟩ : MethodName)) (z := (⟨"com/example/tinwire/tinwire/codec/ByteOutput", "varintAt", "(I)J"⟩ : MethodName)) hown (mvT hZ (hw _ (List.mem_of_getElem? (i := 54) rfl))) (mvT hZ (hw _ (List.mem_of_getElem? (i := 55) rfl))) (notFace_of_selects (args := #[]) (mvT hZ (hw _ (List.mem_of_getElem? (i := 57) rfl)))) (mvT hZ (hw _ (List.mem_of_getElem? (i := 57) rfl))) (mvT hZ (hw _ (List.mem_of_getElem? (i := 56) rfl))) (by decide) (backOf (W := 0) (rm12 l Z a0 hw [] b7 v39 b8_0 (G3 (G1 (upA (fun _ => (0 : Int32)) (0 : Int32).toNatClampNeg (nar .byte ((p2 >>> ((8 : Int32) &&& 31)).toInt8.toInt32))) (1 : Int32) q1 p3) (((1 : Int32) + (f5 q1)) + (1 : Int32)) p4 p5) (jj p4) T41.heap n0 Z41 ((by subst hv39; exact (va2 (G1 (upA (fun _ => (0 : Int32)) (0 : Int32).toNatClampNeg (nar .byte ((p2 >>> ((8 : Int32) &&& 31)).toInt8.toInt32))) (1 : Int32) q1 p3) (((1 : Int32) + (f5 q1)) + (1 : Int32)) p4 p5 (own_sm (Sm.inc (szK (1 : Int32) (by decide) q1).1 (by decide)))).1) : ∀ i, i < (jj p4) → (G3 (G1 (upA (fun _ => (0 : Int32)) (0 : Int32).toNatClampNeg (nar .byte ((p2 >>> ((8 : Int32) &&& 31)).toInt8.toInt32))) (1 : Int32) q1 p3) (((1 : Int32) + (f5 q1)) + (1 : Int32)) p4 p5) (v39.toNatClampNeg + i) < 0) ((by subst hv39; exact (va2 (G1 (upA (fun _ => (0 : Int32)) (0 : Int32).toNatClampNeg (nar .byte ((p2 >>> ((8 : Int32) &&& 31)).toInt8.toInt32))) (1 : Int32) q1 p3) (((1 : Int32) + (f5 q1)) + (1 : Int32)) p4 p5 (own_sm (Sm.inc (szK (1 : Int32) (by decide) q1).1 (by decide)))).2.1) : ¬ (G3 (G1 (upA (fun _ => (0 : Int32)) (0 : Int32).toNatClampNeg (nar .byte ((p2 >>> ((8 : Int32) &&& 31)).toInt8.toInt32))) (1 : Int32) q1 p3) (((1 : Int32) + (f5 q1)) + (1 : Int32)) p4 p5) (v39.toNatClampNeg + (jj p4)) < 0) ((by subst hv39; exact (va2 (G1 (upA (fun _ => (0 : Int32)) (0 : Int32).toNatClampNeg (nar .byte ((p2 >>> ((8 : Int32) &&& 31)).toInt8.toInt32))) (1 : Int32) q1 p3) (((1 : Int32) + (f5 q1)) + (1 : Int32)) p4 p5 (own_sm (Sm.inc (szK (1 : Int32) (by decide) q1).1 (by decide)))).2.2.1) : 0 ≤ v39.toInt ∧ v39.toInt + (jj p4) < 256) Q41_1 Q41_3n) hZ (hw _ (List.mem_of_getElem? (i := 58) rfl)) (hw _ (List.mem_of_getElem? (i := 2) rfl)) (by decide) (by decide)) q48a q48c (g := (mkF m 153 #[.val (.long q1), .second, .val (.int p2), .val (.int p3), .val (.int p4), .val (.int p5), .val (.int p6), .val (.ref b7), .val (.int (1 : Int32)), .val (.int v36), .val (.int v39), .val (.int v42), .val (.int v43), .val (.long v45), .second] [(.int v39), (.ref b7)])) rfl (by rw [hml]; rfl) (Steps.refl _) (argsL := [(.int v39)]) (rest := []) (lenOf pd_8 rfl) rfl (by show 2 * 0 + _ ≤ _; exact Nat.le_of_eq rfl) (hb hby at_153) (fun _ _ => ⟨rfl, e46, (by decide : 2 + 0 ≤ _), (by decide : 258 + 0 ≤ _)⟩)
        dsimp only [Pt.U, Pt.locs, Pt.cells, Pt.slots] at X48 l48 y48 z48 st48 hQ48
        subst l48 y48 z48
        obtain ⟨rfl, N48q, e48⟩ := hQ48
        have N48 := Fr.app N46 N48q
        refine Go.trans st48 ?_
        show Go p e below _ (T48.setTop (mkF m 156 #[.val (.long q1), .second, .val (.int p2), .val (.int p3), .val (.int p4), .val (.int p5), .val (.int p6), .val (.ref b7), .val (.int (1 : Int32)), .val (.int v36), .val (.int v39), .val (.int v42), .val (.int v43), .val (.long v45), .second] [(.long (vaR (jj p4) (G3 (G1 (upA (fun _ => (0 : Int32)) (0 : Int32).toNatClampNeg (nar .byte ((p2 >>> ((8 : Int32) &&& 31)).toInt8.toInt32))) (1 : Int32) q1 p3) (((1 : Int32) + (f5 q1)) + (1 : Int32)) p4 p5) v39 (0 : Int32) (0 : Int64)))]))
        refine Go.step (fun t k => XS.lload X48.here hx rfl (hb hby at_156) rfl k) ?_
        show Go p e below _ (T48.setTop (mkF m 158 #[.val (.long q1), .second, .val (.int p2), .val (.int p3), .val (.int p4), .val (.int p5), .val (.int p6), .val (.ref b7), .val (.int (1 : Int32)), .val (.int v36), .val (.int v39), .val (.int v42), .val (.int v43), .val (.long v45), .second] [(.long v45), (.long (vaR (jj p4) (G3 (G1 (upA (fun _ => (0 : Int32)) (0 : Int32).toNatClampNeg (nar .byte ((p2 >>> ((8 : Int32) &&& 31)).toInt8.toInt32))) (1 : Int32) q1 p3) (((1 : Int32) + (f5 q1)) + (1 : Int32)) p4 p5) v39 (0 : Int32) (0 : Int64)))]))
        refine Go.step (fun t k => XS.lcmp X48.here hx rfl (hb hby at_158) rfl k) ?_
        show Go p e below _ (T48.setTop (mkF m 159 #[.val (.long q1), .second, .val (.int p2), .val (.int p3), .val (.int p4), .val (.int p5), .val (.int p6), .val (.ref b7), .val (.int (1 : Int32)), .val (.int v36), .val (.int v39), .val (.int v42), .val (.int v43), .val (.long v45), .second] [(.int (lcmpW (vaR (jj p4) (G3 (G1 (upA (fun _ => (0 : Int32)) (0 : Int32).toNatClampNeg (nar .byte ((p2 >>> ((8 : Int32) &&& 31)).toInt8.toInt32))) (1 : Int32) q1 p3) (((1 : Int32) + (f5 q1)) + (1 : Int32)) p4 p5) v39 (0 : Int32) (0 : Int64)) v45))]))
        by_cases hc49 : (vaR (jj p4) (G3 (G1 (upA (fun _ => (0 : Int32)) (0 : Int32).toNatClampNeg (nar .byte ((p2 >>> ((8 : Int32) &&& 31)).toInt8.toInt32))) (1 : Int32) q1 p3) (((1 : Int32) + (f5 q1)) + (1 : Int32)) p4 p5) v39 (0 : Int32) (0 : Int64)) = v45
        · refine Go.step (fun t k => XS.ifNo X48.here hx rfl (hb hby at_159) rfl ((if0 _ _).trans (teq ((lw_eq _ _).mpr hc49)).2) k) ?_
          show Go p e below _ (T48.setTop (mkF m 162 #[.val (.long q1), .second, .val (.int p2), .val (.int p3), .val (.int p4), .val (.int p5), .val (.int p6), .val (.ref b7), .val (.int (1 : Int32)), .val (.int v36), .val (.int v39), .val (.int v42), .val (.int v43), .val (.long v45), .second] []))
          refine Go.step (fun t k => XS.iconst X48.here hx rfl (hb hby at_162)  k) ?_
          show Go p e below _ (T48.setTop (mkF m 163 #[.val (.long q1), .second, .val (.int p2), .val (.int p3), .val (.int p4), .val (.int p5), .val (.int p6), .val (.ref b7), .val (.int (1 : Int32)), .val (.int v36), .val (.int v39), .val (.int v42), .val (.int v43), .val (.long v45), .second] [(.int (1 : Int32))]))
          refine Go.step (fun t k => XS.goto X48.here hx rfl (pc0 := 163) (pc' := 167) rfl (hb hby at_163) (by decide) (by decide) k) ?_
          show Go p e below _ (T48.setTop (mkF m 167 #[.val (.long q1), .second, .val (.int p2), .val (.int p3), .val (.int p4), .val (.int p5), .val (.int p6), .val (.ref b7), .val (.int (1 : Int32)), .val (.int v36), .val (.int v39), .val (.int v42), .val (.int v43), .val (.long v45), .second] [(.int (1 : Int32))]))
          subst hv45
          subst hv43
          subst hv42
          subst hv39
          subst hv36
          exact retGN X48 hx Bd.notSynchronized Bd.returns (t := .boolean) (by simp) (z' := (1 : Int32)) rfl (hb hby at_167) ⟨by first | (simp only [f0, if_pos hc9, if_neg hc10, if_neg hc47, if_pos hc49]; done) | rfl | (simp [f0, if_pos hc9, if_neg hc10, if_neg hc47, if_pos hc49]; done), N48⟩ (by decide) (by decide)
        · refine Go.step (fun t k => XS.ifYes X48.here hx rfl (pc0 := 159) (pc' := 166) rfl (hb hby at_159) rfl ((if0 _ _).trans (feq (fun q => hc49 ((lw_eq _ _).mp q))).2) (by decide) (by decide) k) ?_
          show Go p e below _ (T48.setTop (mkF m 166 #[.val (.long q1), .second, .val (.int p2), .val (.int p3), .val (.int p4), .val (.int p5), .val (.int p6), .val (.ref b7), .val (.int (1 : Int32)), .val (.int v36), .val (.int v39), .val (.int v42), .val (.int v43), .val (.long v45), .second] []))
          refine Go.step (fun t k => XS.iconst X48.here hx rfl (hb hby at_166)  k) ?_
          show Go p e below _ (T48.setTop (mkF m 167 #[.val (.long q1), .second, .val (.int p2), .val (.int p3), .val (.int p4), .val (.int p5), .val (.int p6), .val (.ref b7), .val (.int (1 : Int32)), .val (.int v36), .val (.int v39), .val (.int v42), .val (.int v43), .val (.long v45), .second] [(.int (0 : Int32))]))
          subst hv45
          subst hv43
          subst hv42
          subst hv39
          subst hv36
          exact retGN X48 hx Bd.notSynchronized Bd.returns (t := .boolean) (by simp) (z' := (0 : Int32)) rfl (hb hby at_167) ⟨by first | (simp only [f0, if_pos hc9, if_neg hc10, if_neg hc47, if_neg hc49]; done) | rfl | (simp [f0, if_pos hc9, if_neg hc10, if_neg hc47, if_neg hc49]; done), N48⟩ (by decide) (by decide)
  · refine Go.step (fun t k => XS.ifNo X8.here hx rfl (hb hby at_13) rfl ((if0 _ _).trans (feq hc9).1) k) ?_
    show Go p e below _ (T8.setTop (mkF m 16 #[.val (.long q1), .second, .val (.int p2), .val (.int p3), .val (.int p4), .val (.int p5), .val (.int p6), .val (.ref b7), .unset, .unset, .unset, .unset, .unset, .unset, .unset] []))
    refine Go.step (fun t k => XS.aload X8.here hx rfl (hb hby at_16) rfl rfl k) ?_
    show Go p e below _ (T8.setTop (mkF m 18 #[.val (.long q1), .second, .val (.int p2), .val (.int p3), .val (.int p4), .val (.int p5), .val (.int p6), .val (.ref b7), .unset, .unset, .unset, .unset, .unset, .unset, .unset] [(.ref b7)]))
    refine Go.step (fun t k => XS.iloadN X8.here hx rfl (hb hby at_18) rfl k) ?_
    show Go p e below _ (T8.setTop (mkF m 19 #[.val (.long q1), .second, .val (.int p2), .val (.int p3), .val (.int p4), .val (.int p5), .val (.int p6), .val (.ref b7), .unset, .unset, .unset, .unset, .unset, .unset, .unset] [(.int p2), (.ref b7)]))
    obtain ⟨cq50, kq50, q50a, q50b, q50c⟩ := isOf hZ rfl Q8_1
    obtain ⟨_, _, ⟨T50, L50, k50, n50⟩, -, X50, ⟨Lc50, hQ50, l50, y50, z50⟩, st50⟩ := X8.virtualBack hx (y := (⟨"com/example/tinwire/tinwire/codec/ByteOutput", "writeByte", "(I)V"⟩ : MethodName)) (z := (⟨"com/example/tinwire/tinwire/codec/ByteOutput", "writeByte", "(I)V"⟩ : MethodName)) hown (mvT hZ (hw _ (List.mem_of_getElem? (i := 49) rfl))) (mvT hZ (hw _ (List.mem_of_getElem? (i := 50) rfl))) (notFace_of_selects (args := #[]) (mvT hZ (hw _ (List.mem_of_getElem? (i := 52) rfl)))) (mvT hZ (hw _ (List.mem_of_getElem? (i := 52) rfl))) (mvT hZ (hw _ (List.mem_of_getElem? (i := 51) rfl))) (by decide) (backOf (W := 0) (rm11 l Z a0 hw [] b7 p2 (0 : Int32) b8_0 (fun _ => (0 : Int32)) T8.heap n0 Z8 Q8_0 Q8_2 Q8_3 ((by decide) : ¬ ((256 : Int64) < (((0 : Int32).toInt64) + (1 : Int64)))) Q8_1 g_b7 (Ne.symm ne_b7_b8_0) g_b8_0 ((by decide) : ¬ (0 : Int32) < 0) ((by decide) : (0 : Int32).toNatClampNeg < 256) ne_b7_b8_0) hZ (hw _ (List.mem_of_getElem? (i := 53) rfl)) (hw _ (List.mem_of_getElem? (i := 2) rfl)) (by decide) (by decide)) q50a q50c (g := (mkF m 19 #[.val (.long q1), .second, .val (.int p2), .val (.int p3), .val (.int p4), .val (.int p5), .val (.int p6), .val (.ref b7), .unset, .unset, .unset, .unset, .unset, .unset, .unset] [(.int p2), (.ref b7)])) rfl (by rw [hml]; rfl) (Steps.refl _) (argsL := [(.int p2)]) (rest := []) (lenOf pd_7 rfl) rfl (by show 2 * 0 + _ ≤ _; exact Nat.le_of_eq rfl) (hb hby at_19) (fun _ _ => ⟨rfl, rfl, (by decide : 2 + 0 ≤ _), (by decide : 258 + 0 ≤ _)⟩)
    dsimp only [Pt.U, Pt.locs, Pt.cells, Pt.slots] at X50 l50 y50 z50 st50 hQ50
    subst l50 y50 z50
    obtain ⟨rfl, N50q, K50, Q50_0, Q50_1, Q50_2, Q50_3⟩ := hQ50
    have N50 := Fr.app N8 N50q
    have E_b7_50 := Q8_1.keep K50
    have Z50 := Nat.le_trans Z8 K50.1
    have KK50 : Keep h0 T50.heap [] := KK8.trans K50 (allS (Or.inr sz_b7) (allS (Or.inr sz_b8_0) all0))
    refine Go.trans st50 ?_
    show Go p e below _ (T50.setTop (mkF m 22 #[.val (.long q1), .second, .val (.int p2), .val (.int p3), .val (.int p4), .val (.int p5), .val (.int p6), .val (.ref b7), .unset, .unset, .unset, .unset, .unset, .unset, .unset] []))
    refine Go.step (fun t k => XS.iload X50.here hx rfl (hb hby at_22) rfl k) ?_
    show Go p e below _ (T50.setTop (mkF m 24 #[.val (.long q1), .second, .val (.int p2), .val (.int p3), .val (.int p4), .val (.int p5), .val (.int p6), .val (.ref b7), .unset, .unset, .unset, .unset, .unset, .unset, .unset] [(.int p6)]))
    refine Go.step (fun t k => XS.iconst X50.here hx rfl (hb hby at_24)  k) ?_
    show Go p e below _ (T50.setTop (mkF m 25 #[.val (.long q1), .second, .val (.int p2), .val (.int p3), .val (.int p4), .val (.int p5), .val (.int p6), .val (.ref b7), .unset, .unset, .unset, .unset, .unset, .unset, .unset] [(.int (2 : Int32)), (.int p6)]))
    refine Go.step (fun t k => XS.iand X50.here hx rfl (hb hby at_25) rfl k) ?_
    show Go p e below _ (T50.setTop (mkF m 26 #[.val (.long q1), .second, .val (.int p2), .val (.int p3), .val (.int p4), .val (.int p5), .val (.int p6), .val (.ref b7), .unset, .unset, .unset, .unset, .unset, .unset, .unset] [(.int (p6 &&& (2 : Int32)))]))
    by_cases hc51 : (p6 &&& (2 : Int32)) = (0 : Int32)
    · refine Go.step (fun t k => XS.ifYes X50.here hx rfl (pc0 := 26) (pc' := 38) rfl (hb hby at_26) rfl ((if0 _ _).trans (teq hc51).1) (by decide) (by decide) k) ?_
      show Go p e below _ (T50.setTop (mkF m 38 #[.val (.long q1), .second, .val (.int p2), .val (.int p3), .val (.int p4), .val (.int p5), .val (.int p6), .val (.ref b7), .unset, .unset, .unset, .unset, .unset, .unset, .unset] []))
      refine Go.step (fun t k => XS.aload X50.here hx rfl (hb hby at_38) rfl rfl k) ?_
      show Go p e below _ (T50.setTop (mkF m 40 #[.val (.long q1), .second, .val (.int p2), .val (.int p3), .val (.int p4), .val (.int p5), .val (.int p6), .val (.ref b7), .unset, .unset, .unset, .unset, .unset, .unset, .unset] [(.ref b7)]))
      obtain ⟨cq52, kq52, q52a, q52b, q52c⟩ := isOf hZ rfl Q50_2
      obtain ⟨_, _, ⟨T52, L52, k52, n52⟩, -, X52, ⟨Lc52, hQ52, l52, y52, z52⟩, st52⟩ := X50.virtualBack hx (y := (⟨"com/example/tinwire/tinwire/codec/ByteOutput", "size", "()I"⟩ : MethodName)) (z := (⟨"com/example/tinwire/tinwire/codec/ByteOutput", "size", "()I"⟩ : MethodName)) hown (mvT hZ (hw _ (List.mem_of_getElem? (i := 12) rfl))) (mvT hZ (hw _ (List.mem_of_getElem? (i := 13) rfl))) (notFace_of_selects (args := #[]) (mvT hZ (hw _ (List.mem_of_getElem? (i := 15) rfl)))) (mvT hZ (hw _ (List.mem_of_getElem? (i := 15) rfl))) (mvT hZ (hw _ (List.mem_of_getElem? (i := 14) rfl))) (by decide) (backOf (W := 0) (rm3 l Z a0 hw [] b7 (1 : Int32) T50.heap n0 Z50 Q50_0) hZ (hw _ (List.mem_of_getElem? (i := 16) rfl)) (hw _ (List.mem_of_getElem? (i := 2) rfl)) (by decide) (by decide)) q52a q52c (g := (mkF m 40 #[.val (.long q1), .second, .val (.int p2), .val (.int p3), .val (.int p4), .val (.int p5), .val (.int p6), .val (.ref b7), .unset, .unset, .unset, .unset, .unset, .unset, .unset] [(.ref b7)])) rfl (by rw [hml]; rfl) (Steps.refl _) (argsL := []) (rest := []) (lenOf pd_6 rfl) rfl (by show 2 * 0 + _ ≤ _; exact Nat.le_of_eq rfl) (hb hby at_40) (fun _ _ => ⟨rfl, rfl, (by decide : 2 + 0 ≤ _), (by decide : 258 + 0 ≤ _)⟩)
      dsimp only [Pt.U, Pt.locs, Pt.cells, Pt.slots] at X52 l52 y52 z52 st52 hQ52
      subst l52 y52 z52
      obtain ⟨rfl, N52q, e52⟩ := hQ52
      have N52 := Fr.app N50 N52q
      refine Go.trans st52 ?_
      show Go p e below _ (T52.setTop (mkF m 43 #[.val (.long q1), .second, .val (.int p2), .val (.int p3), .val (.int p4), .val (.int p5), .val (.int p6), .val (.ref b7), .unset, .unset, .unset, .unset, .unset, .unset, .unset] [(.int (1 : Int32))]))
      refine Go.step (fun t k => XS.istore X52.here hx rfl (hb hby at_43) rfl (l' := #[.val (.long q1), .second, .val (.int p2), .val (.int p3), .val (.int p4), .val (.int p5), .val (.int p6), .val (.ref b7), .val (.int (1 : Int32)), .unset, .unset, .unset, .unset, .unset, .unset]) rfl k) ?_
      show Go p e below _ (T52.setTop (mkF m 45 #[.val (.long q1), .second, .val (.int p2), .val (.int p3), .val (.int p4), .val (.int p5), .val (.int p6), .val (.ref b7), .val (.int (1 : Int32)), .unset, .unset, .unset, .unset, .unset, .unset] []))
      refine Go.step (fun t k => XS.aload X52.here hx rfl (hb hby at_45) rfl rfl k) ?_
      show Go p e below _ (T52.setTop (mkF m 47 #[.val (.long q1), .second, .val (.int p2), .val (.int p3), .val (.int p4), .val (.int p5), .val (.int p6), .val (.ref b7), .val (.int (1 : Int32)), .unset, .unset, .unset, .unset, .unset, .unset] [(.ref b7)]))
      refine Go.step (fun t k => XS.lloadN X52.here hx rfl (hb hby at_47) rfl k) ?_
      show Go p e below _ (T52.setTop (mkF m 48 #[.val (.long q1), .second, .val (.int p2), .val (.int p3), .val (.int p4), .val (.int p5), .val (.int p6), .val (.ref b7), .val (.int (1 : Int32)), .unset, .unset, .unset, .unset, .unset, .unset] [(.long q1), (.ref b7)]))
      obtain ⟨cq53, kq53, q53a, q53b, q53c⟩ := isOf hZ e52 Q50_2
      obtain ⟨_, _, ⟨T53, L53, k53, n53⟩, -, X53, ⟨Lc53, hQ53, l53, y53, z53⟩, st53⟩ := X52.virtualBack hx (y := (⟨"com/example/tinwire/tinwire/codec/ByteOutput", "writeVarint", "(J)V"⟩ : MethodName)) (z := (⟨"com/example/tinwire/tinwire/codec/ByteOutput", "writeVarint", "(J)V"⟩ : MethodName)) hown (mvT hZ (hw _ (List.mem_of_getElem? (i := 19) rfl))) (mvT hZ (hw _ (List.mem_of_getElem? (i := 20) rfl))) (notFace_of_selects (args := #[]) (mvT hZ (hw _ (List.mem_of_getElem? (i := 22) rfl)))) (mvT hZ (hw _ (List.mem_of_getElem? (i := 22) rfl))) (mvT hZ (hw _ (List.mem_of_getElem? (i := 21) rfl))) (by decide) (backOf (W := 0) (rm4 l Z a0 hw [] b7 q1 (1 : Int32) b8_0 (upA (fun _ => (0 : Int32)) (0 : Int32).toNatClampNeg (nar .byte (p2.toInt8.toInt32))) T50.heap n0 Z50 ((by decide) : 0 ≤ (1 : Int32).toInt ∧ (1 : Int32).toInt + (9 : Nat) < 256) Q50_0 Q50_1 Q50_3 Q50_2 g_b8_0 ne_b7_b8_0 g_b7 (Ne.symm ne_b7_b8_0)) hZ (hw _ (List.mem_of_getElem? (i := 23) rfl)) (hw _ (List.mem_of_getElem? (i := 2) rfl)) (by decide) (by decide)) q53a q53c (g := (mkF m 48 #[.val (.long q1), .second, .val (.int p2), .val (.int p3), .val (.int p4), .val (.int p5), .val (.int p6), .val (.ref b7), .val (.int (1 : Int32)), .unset, .unset, .unset, .unset, .unset, .unset] [(.long q1), (.ref b7)])) rfl (by rw [hml]; rfl) (Steps.refl _) (argsL := [(.long q1)]) (rest := []) (lenOf pd_3 rfl) rfl (by show 2 * 0 + _ ≤ _; exact Nat.le_of_eq rfl) (hb hby at_48) (fun _ _ => ⟨rfl, e52, (by decide : 2 + 0 ≤ _), (by decide : 258 + 0 ≤ _)⟩)
      dsimp only [Pt.U, Pt.locs, Pt.cells, Pt.slots] at X53 l53 y53 z53 st53 hQ53
      subst l53 y53 z53
      obtain ⟨rfl, N53q, K53, Q53_0, Q53_1, Q53_2, Q53_3⟩ := hQ53
      have N53 := Fr.app N52 N53q
      have E_b7_53 := Q50_2.keep K53
      have Z53 := Nat.le_trans Z50 K53.1
      have KK53 : Keep h0 T53.heap [] := KK50.trans K53 (allS (Or.inr sz_b8_0) (allS (Or.inr sz_b7) all0))
      refine Go.trans st53 ?_
      show Go p e below _ (T53.setTop (mkF m 51 #[.val (.long q1), .second, .val (.int p2), .val (.int p3), .val (.int p4), .val (.int p5), .val (.int p6), .val (.ref b7), .val (.int (1 : Int32)), .unset, .unset, .unset, .unset, .unset, .unset] []))
      refine Go.step (fun t k => XS.aload X53.here hx rfl (hb hby at_51) rfl rfl k) ?_
      show Go p e below _ (T53.setTop (mkF m 53 #[.val (.long q1), .second, .val (.int p2), .val (.int p3), .val (.int p4), .val (.int p5), .val (.int p6), .val (.ref b7), .val (.int (1 : Int32)), .unset, .unset, .unset, .unset, .unset, .unset] [(.ref b7)]))
      refine Go.step (fun t k => XS.iloadN X53.here hx rfl (hb hby at_53) rfl k) ?_
      show Go p e below _ (T53.setTop (mkF m 54 #[.val (.long q1), .second, .val (.int p2), .val (.int p3), .val (.int p4), .val (.int p5), .val (.int p6), .val (.ref b7), .val (.int (1 : Int32)), .unset, .unset, .unset, .unset, .unset, .unset] [(.int p3), (.ref b7)]))
      obtain ⟨cq54, kq54, q54a, q54b, q54c⟩ := isOf hZ rfl Q53_2
      obtain ⟨_, _, ⟨T54, L54, k54, n54⟩, -, X54, ⟨Lc54, hQ54, l54, y54, z54⟩, st54⟩ := X53.virtualBack hx (y := (⟨"com/example/tinwire/tinwire/codec/ByteOutput", "writeByte", "(I)V"⟩ : MethodName)) (z := (⟨"com/example/tinwire/tinwire/codec/ByteOutput", "writeByte", "(I)V"⟩ : MethodName)) hown (mvT hZ (hw _ (List.mem_of_getElem? (i := 49) rfl))) (mvT hZ (hw _ (List.mem_of_getElem? (i := 50) rfl))) (notFace_of_selects (args := #[]) (mvT hZ (hw _ (List.mem_of_getElem? (i := 52) rfl)))) (mvT hZ (hw _ (List.mem_of_getElem? (i := 52) rfl))) (mvT hZ (hw _ (List.mem_of_getElem? (i := 51) rfl))) (by decide) (backOf (W := 0) (rm11 l Z a0 hw [] b7 p3 ((1 : Int32) + (f5 q1)) b8_0 (pvF 9 (upA (fun _ => (0 : Int32)) (0 : Int32).toNatClampNeg (nar .byte (p2.toInt8.toInt32))) (1 : Int32) q1) T53.heap n0 Z53 Q53_0 Q53_1 Q53_3 ((Sm.room (szK (1 : Int32) (by decide) q1).1 (by decide)) : ¬ ((256 : Int64) < ((((1 : Int32) + (f5 q1)).toInt64) + (1 : Int64)))) Q53_2 g_b7 (Ne.symm ne_b7_b8_0) g_b8_0 ((Sm.nn (szK (1 : Int32) (by decide) q1).1) : ¬ ((1 : Int32) + (f5 q1)) < 0) ((Sm.lt (szK (1 : Int32) (by decide) q1).1 (by decide)) : ((1 : Int32) + (f5 q1)).toNatClampNeg < 256) ne_b7_b8_0) hZ (hw _ (List.mem_of_getElem? (i := 53) rfl)) (hw _ (List.mem_of_getElem? (i := 2) rfl)) (by decide) (by decide)) q54a q54c (g := (mkF m 54 #[.val (.long q1), .second, .val (.int p2), .val (.int p3), .val (.int p4), .val (.int p5), .val (.int p6), .val (.ref b7), .val (.int (1 : Int32)), .unset, .unset, .unset, .unset, .unset, .unset] [(.int p3), (.ref b7)])) rfl (by rw [hml]; rfl) (Steps.refl _) (argsL := [(.int p3)]) (rest := []) (lenOf pd_7 rfl) rfl (by show 2 * 0 + _ ≤ _; exact Nat.le_of_eq rfl) (hb hby at_54) (fun _ _ => ⟨rfl, rfl, (by decide : 2 + 0 ≤ _), (by decide : 258 + 0 ≤ _)⟩)
      dsimp only [Pt.U, Pt.locs, Pt.cells, Pt.slots] at X54 l54 y54 z54 st54 hQ54
      subst l54 y54 z54
      obtain ⟨rfl, N54q, K54, Q54_0, Q54_1, Q54_2, Q54_3⟩ := hQ54
      have N54 := Fr.app N53 N54q
      have E_b7_54 := Q53_2.keep K54
      have Z54 := Nat.le_trans Z53 K54.1
      have KK54 : Keep h0 T54.heap [] := KK53.trans K54 (allS (Or.inr sz_b7) (allS (Or.inr sz_b8_0) all0))
      refine Go.trans st54 ?_
      show Go p e below _ (T54.setTop (mkF m 57 #[.val (.long q1), .second, .val (.int p2), .val (.int p3), .val (.int p4), .val (.int p5), .val (.int p6), .val (.ref b7), .val (.int (1 : Int32)), .unset, .unset, .unset, .unset, .unset, .unset] []))
      have Q54_3n : Ary Z T54.heap b8_0 .byte 256 (fun i => .int ((G1 (upA (fun _ => (0 : Int32)) (0 : Int32).toNatClampNeg (nar .byte (p2.toInt8.toInt32))) (1 : Int32) q1 p3) i)) := Q54_3
      show Go p e below _ (T54.setTop (mkF m 57 #[.val (.long q1), .second, .val (.int p2), .val (.int p3), .val (.int p4), .val (.int p5), .val (.int p6), .val (.ref b7), .val (.int (1 : Int32)), .unset, .unset, .unset, .unset, .unset, .unset] []))
      refine Go.step (fun t k => XS.aload X54.here hx rfl (hb hby at_57) rfl rfl k) ?_
      show Go p e below _ (T54.setTop (mkF m 59 #[.val (.long q1), .second, .val (.int p2), .val (.int p3), .val (.int p4), .val (.int p5), .val (.int p6), .val (.ref b7), .val (.int (1 : Int32)), .unset, .unset, .unset, .unset, .unset, .unset] [(.ref b7)]))
      refine Go.step (fun t k => XS.iload X54.here hx rfl (hb hby at_59) rfl k) ?_
      show Go p e below _ (T54.setTop (mkF m 61 #[.val (.long q1), .second, .val (.int p2), .val (.int p3), .val (.int p4), .val (.int p5), .val (.int p6), .val (.ref b7), .val (.int (1 : Int32)), .unset, .unset, .unset, .unset, .unset, .unset] [(.int (1 : Int32)), (.ref b7)]))
      obtain ⟨cq55, kq55, q55a, q55b, q55c⟩ := isOf hZ rfl Q54_2
      obtain ⟨_, _, ⟨T55, L55, k55, n55⟩, -, X55, ⟨Lc55, hQ55, l55, y55, z55⟩, st55⟩ := X54.virtualBack hx (y := (⟨"com/example/tinwire/tinwire/codec/ByteOutput", "varintAt", "(I)J"⟩ : MethodName)) (z := (⟨"com/example/tinwire/tinwire/codec/ByteOutput", "varintAt", "(I)J"⟩ : MethodName)) hown (mvT hZ (hw _ (List.mem_of_getElem? (i := 54) rfl))) (mvT hZ (hw _ (List.mem_of_getElem? (i := 55) rfl))) (notFace_of_selects (args := #[]) (mvT hZ (hw _ (List.mem_of_getElem? (i := 57) rfl)))) (mvT hZ (hw _ (List.mem_of_getElem? (i := 57) rfl))) (mvT hZ (hw _ (List.mem_of_getElem? (i := 56) rfl))) (by decide) (backOf (W := 0) (rm12 l Z a0 hw [] b7 (1 : Int32) b8_0 (G1 (upA (fun _ => (0 : Int32)) (0 : Int32).toNatClampNeg (nar .byte (p2.toInt8.toInt32))) (1 : Int32) q1 p3) ((f5 q1).toInt.toNat - 1 : Nat) T54.heap n0 Z54 ((va1 (upA (fun _ => (0 : Int32)) (0 : Int32).toNatClampNeg (nar .byte (p2.toInt8.toInt32))) (1 : Int32) (by decide) q1 p3).1 : ∀ i, i < ((f5 q1).toInt.toNat - 1 : Nat) → (G1 (upA (fun _ => (0 : Int32)) (0 : Int32).toNatClampNeg (nar .byte (p2.toInt8.toInt32))) (1 : Int32) q1 p3) ((1 : Int32).toNatClampNeg + i) < 0) ((va1 (upA (fun _ => (0 : Int32)) (0 : Int32).toNatClampNeg (nar .byte (p2.toInt8.toInt32))) (1 : Int32) (by decide) q1 p3).2.1 : ¬ (G1 (upA (fun _ => (0 : Int32)) (0 : Int32).toNatClampNeg (nar .byte (p2.toInt8.toInt32))) (1 : Int32) q1 p3) ((1 : Int32).toNatClampNeg + ((f5 q1).toInt.toNat - 1 : Nat)) < 0) ((va1 (upA (fun _ => (0 : Int32)) (0 : Int32).toNatClampNeg (nar .byte (p2.toInt8.toInt32))) (1 : Int32) (by decide) q1 p3).2.2.1 : 0 ≤ (1 : Int32).toInt ∧ (1 : Int32).toInt + ((f5 q1).toInt.toNat - 1 : Nat) < 256) Q54_1 Q54_3n) hZ (hw _ (List.mem_of_getElem? (i := 58) rfl)) (hw _ (List.mem_of_getElem? (i := 2) rfl)) (by decide) (by decide)) q55a q55c (g := (mkF m 61 #[.val (.long q1), .second, .val (.int p2), .val (.int p3), .val (.int p4), .val (.int p5), .val (.int p6), .val (.ref b7), .val (.int (1 : Int32)), .unset, .unset, .unset, .unset, .unset, .unset] [(.int (1 : Int32)), (.ref b7)])) rfl (by rw [hml]; rfl) (Steps.refl _) (argsL := [(.int (1 : Int32))]) (rest := []) (lenOf pd_8 rfl) rfl (by show 2 * 0 + _ ≤ _; exact Nat.le_of_eq rfl) (hb hby at_61) (fun _ _ => ⟨rfl, rfl, (by decide : 2 + 0 ≤ _), (by decide : 258 + 0 ≤ _)⟩)
      dsimp only [Pt.U, Pt.locs, Pt.cells, Pt.slots] at X55 l55 y55 z55 st55 hQ55
      subst l55 y55 z55
      obtain ⟨rfl, N55q, e55⟩ := hQ55
      have N55 := Fr.app N54 N55q
      refine Go.trans st55 ?_
      show Go p e below _ (T55.setTop (mkF m 64 #[.val (.long q1), .second, .val (.int p2), .val (.int p3), .val (.int p4), .val (.int p5), .val (.int p6), .val (.ref b7), .val (.int (1 : Int32)), .unset, .unset, .unset, .unset, .unset, .unset] [(.long (vaR ((f5 q1).toInt.toNat - 1 : Nat) (G1 (upA (fun _ => (0 : Int32)) (0 : Int32).toNatClampNeg (nar .byte (p2.toInt8.toInt32))) (1 : Int32) q1 p3) (1 : Int32) (0 : Int32) (0 : Int64)))]))
      refine Go.step (fun t k => XS.lloadN X55.here hx rfl (hb hby at_64) rfl k) ?_
      show Go p e below _ (T55.setTop (mkF m 65 #[.val (.long q1), .second, .val (.int p2), .val (.int p3), .val (.int p4), .val (.int p5), .val (.int p6), .val (.ref b7), .val (.int (1 : Int32)), .unset, .unset, .unset, .unset, .unset, .unset] [(.long q1), (.long (vaR ((f5 q1).toInt.toNat - 1 : Nat) (G1 (upA (fun _ => (0 : Int32)) (0 : Int32).toNatClampNeg (nar .byte (p2.toInt8.toInt32))) (1 : Int32) q1 p3) (1 : Int32) (0 : Int32) (0 : Int64)))]))
      refine Go.step (fun t k => XS.lcmp X55.here hx rfl (hb hby at_65) rfl k) ?_
      show Go p e below _ (T55.setTop (mkF m 66 #[.val (.long q1), .second, .val (.int p2), .val (.int p3), .val (.int p4), .val (.int p5), .val (.int p6), .val (.ref b7), .val (.int (1 : Int32)), .unset, .unset, .unset, .unset, .unset, .unset] [(.int (lcmpW (vaR ((f5 q1).toInt.toNat - 1 : Nat) (G1 (upA (fun _ => (0 : Int32)) (0 : Int32).toNatClampNeg (nar .byte (p2.toInt8.toInt32))) (1 : Int32) q1 p3) (1 : Int32) (0 : Int32) (0 : Int64)) q1))]))
      obtain ⟨v57, hv57⟩ : ∃ z : Int32, z = (if (vaR ((f5 q1).toInt.toNat - 1 : Nat) (G1 (upA (fun _ => (0 : Int32)) (0 : Int32).toNatClampNeg (nar .byte (p2.toInt8.toInt32))) (1 : Int32) q1 p3) (1 : Int32) (0 : Int32) (0 : Int64)) = q1 then (1 : Int32) else (0 : Int32)) := ⟨_, rfl⟩
      have J66 : Go p e below (AtF p l e room_1 s m #[(.long q1), (.int p2), (.int p3), (.int p4), (.int p5), (.int p6)] below meth c n0 2 258 T54.heap (mkF m 74 #[.val (.long q1), .second, .val (.int p2), .val (.int p3), .val (.int p4), .val (.int p5), .val (.int p6), .val (.ref b7), .val (.int (1 : Int32)), .unset, .unset, .unset, .unset, .unset, .unset] [(.int v57)])) (T55.setTop (mkF m 66 #[.val (.long q1), .second, .val (.int p2), .val (.int p3), .val (.int p4), .val (.int p5), .val (.int p6), .val (.ref b7), .val (.int (1 : Int32)), .unset, .unset, .unset, .unset, .unset, .unset] [(.int (lcmpW (vaR ((f5 q1).toInt.toNat - 1 : Nat) (G1 (upA (fun _ => (0 : Int32)) (0 : Int32).toNatClampNeg (nar .byte (p2.toInt8.toInt32))) (1 : Int32) q1 p3) (1 : Int32) (0 : Int32) (0 : Int64)) q1))])) := by
        by_cases hc56 : (vaR ((f5 q1).toInt.toNat - 1 : Nat) (G1 (upA (fun _ => (0 : Int32)) (0 : Int32).toNatClampNeg (nar .byte (p2.toInt8.toInt32))) (1 : Int32) q1 p3) (1 : Int32) (0 : Int32) (0 : Int64)) = q1
        · refine Go.step (fun t k => XS.ifNo X55.here hx rfl (hb hby at_66) rfl ((if0 _ _).trans (teq ((lw_eq _ _).mpr hc56)).2) k) ?_
          show Go p e below _ (T55.setTop (mkF m 69 #[.val (.long q1), .second, .val (.int p2), .val (.int p3), .val (.int p4), .val (.int p5), .val (.int p6), .val (.ref b7), .val (.int (1 : Int32)), .unset, .unset, .unset, .unset, .unset, .unset] []))
          refine Go.step (fun t k => XS.iconst X55.here hx rfl (hb hby at_69)  k) ?_
          show Go p e below _ (T55.setTop (mkF m 70 #[.val (.long q1), .second, .val (.int p2), .val (.int p3), .val (.int p4), .val (.int p5), .val (.int p6), .val (.ref b7), .val (.int (1 : Int32)), .unset, .unset, .unset, .unset, .unset, .unset] [(.int (1 : Int32))]))
          refine Go.step (fun t k => XS.goto X55.here hx rfl (pc0 := 70) (pc' := 74) rfl (hb hby at_70) (by decide) (by decide) k) ?_
          show Go p e below _ (T55.setTop (mkF m 74 #[.val (.long q1), .second, .val (.int p2), .val (.int p3), .val (.int p4), .val (.int p5), .val (.int p6), .val (.ref b7), .val (.int (1 : Int32)), .unset, .unset, .unset, .unset, .unset, .unset] [(.int (1 : Int32))]))
          exact Go.here ⟨_, _, by simp only [hv57, if_pos hc56], X55, N55, e55⟩
        · refine Go.step (fun t k => XS.ifYes X55.here hx rfl (pc0 := 66) (pc' := 73) rfl (hb hby at_66) rfl ((if0 _ _).trans (feq (fun q => hc56 ((lw_eq _ _).mp q))).2) (by decide) (by decide) k) ?_
          show Go p e below _ (T55.setTop (mkF m 73 #[.val (.long q1), .second, .val (.int p2), .val (.int p3), .val (.int p4), .val (.int p5), .val (.int p6), .val (.ref b7), .val (.int (1 : Int32)), .unset, .unset, .unset, .unset, .unset, .unset] []))
          refine Go.step (fun t k => XS.iconst X55.here hx rfl (hb hby at_73)  k) ?_
          show Go p e below _ (T55.setTop (mkF m 74 #[.val (.long q1), .second, .val (.int p2), .val (.int p3), .val (.int p4), .val (.int p5), .val (.int p6), .val (.ref b7), .val (.int (1 : Int32)), .unset, .unset, .unset, .unset, .unset, .unset] [(.int (0 : Int32))]))
          exact Go.here ⟨_, _, by simp only [hv57, if_neg hc56], X55, N55, e55⟩
      obtain ⟨_, st58, T58, Lj58, rfl, X58, N58, e58⟩ := J66
      refine Go.trans st58 ?_
      show Go p e below _ (T58.setTop (mkF m 74 #[.val (.long q1), .second, .val (.int p2), .val (.int p3), .val (.int p4), .val (.int p5), .val (.int p6), .val (.ref b7), .val (.int (1 : Int32)), .unset, .unset, .unset, .unset, .unset, .unset] [(.int v57)]))
      refine Go.step (fun t k => XS.istore X58.here hx rfl (hb hby at_74) rfl (l' := #[.val (.long q1), .second, .val (.int p2), .val (.int p3), .val (.int p4), .val (.int p5), .val (.int p6), .val (.ref b7), .val (.int (1 : Int32)), .val (.int v57), .unset, .unset, .unset, .unset, .unset]) rfl k) ?_
      show Go p e below _ (T58.setTop (mkF m 76 #[.val (.long q1), .second, .val (.int p2), .val (.int p3), .val (.int p4), .val (.int p5), .val (.int p6), .val (.ref b7), .val (.int (1 : Int32)), .val (.int v57), .unset, .unset, .unset, .unset, .unset] []))
      refine Go.step (fun t k => XS.aload X58.here hx rfl (hb hby at_76) rfl rfl k) ?_
      show Go p e below _ (T58.setTop (mkF m 78 #[.val (.long q1), .second, .val (.int p2), .val (.int p3), .val (.int p4), .val (.int p5), .val (.int p6), .val (.ref b7), .val (.int (1 : Int32)), .val (.int v57), .unset, .unset, .unset, .unset, .unset] [(.ref b7)]))
      obtain ⟨cq59, kq59, q59a, q59b, q59c⟩ := isOf hZ e58 Q54_2
      obtain ⟨_, _, ⟨T59, L59, k59, n59⟩, -, X59, ⟨Lc59, hQ59, l59, y59, z59⟩, st59⟩ := X58.virtualBack hx (y := (⟨"com/example/tinwire/tinwire/codec/ByteOutput", "size", "()I"⟩ : MethodName)) (z := (⟨"com/example/tinwire/tinwire/codec/ByteOutput", "size", "()I"⟩ : MethodName)) hown (mvT hZ (hw _ (List.mem_of_getElem? (i := 12) rfl))) (mvT hZ (hw _ (List.mem_of_getElem? (i := 13) rfl))) (notFace_of_selects (args := #[]) (mvT hZ (hw _ (List.mem_of_getElem? (i := 15) rfl)))) (mvT hZ (hw _ (List.mem_of_getElem? (i := 15) rfl))) (mvT hZ (hw _ (List.mem_of_getElem? (i := 14) rfl))) (by decide) (backOf (W := 0) (rm3 l Z a0 hw [] b7 (((1 : Int32) + (f5 q1)) + (1 : Int32)) T54.heap n0 Z54 Q54_0) hZ (hw _ (List.mem_of_getElem? (i := 16) rfl)) (hw _ (List.mem_of_getElem? (i := 2) rfl)) (by decide) (by decide)) q59a q59c (g := (mkF m 78 #[.val (.long q1), .second, .val (.int p2), .val (.int p3), .val (.int p4), .val (.int p5), .val (.int p6), .val (.ref b7), .val (.int (1 : Int32)), .val (.int v57), .unset, .unset, .unset, .unset, .unset] [(.ref b7)])) rfl (by rw [hml]; rfl) (Steps.refl _) (argsL := []) (rest := []) (lenOf pd_6 rfl) rfl (by show 2 * 0 + _ ≤ _; exact Nat.le_of_eq rfl) (hb hby at_78) (fun _ _ => ⟨rfl, e58, (by decide : 2 + 0 ≤ _), (by decide : 258 + 0 ≤ _)⟩)
      dsimp only [Pt.U, Pt.locs, Pt.cells, Pt.slots] at X59 l59 y59 z59 st59 hQ59
      subst l59 y59 z59
      obtain ⟨rfl, N59q, e59⟩ := hQ59
      have N59 := Fr.app N58 N59q
      refine Go.trans st59 ?_
      show Go p e below _ (T59.setTop (mkF m 81 #[.val (.long q1), .second, .val (.int p2), .val (.int p3), .val (.int p4), .val (.int p5), .val (.int p6), .val (.ref b7), .val (.int (1 : Int32)), .val (.int v57), .unset, .unset, .unset, .unset, .unset] [(.int (((1 : Int32) + (f5 q1)) + (1 : Int32)))]))
      obtain ⟨v60, hv60⟩ : ∃ z : Int32, z = (((1 : Int32) + (f5 q1)) + (1 : Int32)) := ⟨_, rfl⟩
      rw [← hv60]
      show Go p e below _ (T59.setTop (mkF m 81 #[.val (.long q1), .second, .val (.int p2), .val (.int p3), .val (.int p4), .val (.int p5), .val (.int p6), .val (.ref b7), .val (.int (1 : Int32)), .val (.int v57), .unset, .unset, .unset, .unset, .unset] [(.int v60)]))
      refine Go.step (fun t k => XS.istore X59.here hx rfl (hb hby at_81) rfl (l' := #[.val (.long q1), .second, .val (.int p2), .val (.int p3), .val (.int p4), .val (.int p5), .val (.int p6), .val (.ref b7), .val (.int (1 : Int32)), .val (.int v57), .val (.int v60), .unset, .unset, .unset, .unset]) rfl k) ?_
      show Go p e below _ (T59.setTop (mkF m 83 #[.val (.long q1), .second, .val (.int p2), .val (.int p3), .val (.int p4), .val (.int p5), .val (.int p6), .val (.ref b7), .val (.int (1 : Int32)), .val (.int v57), .val (.int v60), .unset, .unset, .unset, .unset] []))
      refine Go.step (fun t k => XS.aload X59.here hx rfl (hb hby at_83) rfl rfl k) ?_
      show Go p e below _ (T59.setTop (mkF m 85 #[.val (.long q1), .second, .val (.int p2), .val (.int p3), .val (.int p4), .val (.int p5), .val (.int p6), .val (.ref b7), .val (.int (1 : Int32)), .val (.int v57), .val (.int v60), .unset, .unset, .unset, .unset] [(.ref b7)]))
      refine Go.step (fun t k => XS.iload X59.here hx rfl (hb hby at_85) rfl k) ?_
      show Go p e below _ (T59.setTop (mkF m 87 #[.val (.long q1), .second, .val (.int p2), .val (.int p3), .val (.int p4), .val (.int p5), .val (.int p6), .val (.ref b7), .val (.int (1 : Int32)), .val (.int v57), .val (.int v60), .unset, .unset, .unset, .unset] [(.int p4), (.ref b7)]))
      obtain ⟨cq61, kq61, q61a, q61b, q61c⟩ := isOf hZ e59 Q54_2
      obtain ⟨_, _, ⟨T61, L61, k61, n61⟩, -, X61, ⟨Lc61, hQ61, l61, y61, z61⟩, st61⟩ := X59.virtualBack hx (y := (⟨"com/example/tinwire/tinwire/codec/ByteOutput", "writeByte", "(I)V"⟩ : MethodName)) (z := (⟨"com/example/tinwire/tinwire/codec/ByteOutput", "writeByte", "(I)V"⟩ : MethodName)) hown (mvT hZ (hw _ (List.mem_of_getElem? (i := 49) rfl))) (mvT hZ (hw _ (List.mem_of_getElem? (i := 50) rfl))) (notFace_of_selects (args := #[]) (mvT hZ (hw _ (List.mem_of_getElem? (i := 52) rfl)))) (mvT hZ (hw _ (List.mem_of_getElem? (i := 52) rfl))) (mvT hZ (hw _ (List.mem_of_getElem? (i := 51) rfl))) (by decide) (backOf (W := 0) (rm11 l Z a0 hw [] b7 p4 (((1 : Int32) + (f5 q1)) + (1 : Int32)) b8_0 (G1 (upA (fun _ => (0 : Int32)) (0 : Int32).toNatClampNeg (nar .byte (p2.toInt8.toInt32))) (1 : Int32) q1 p3) T54.heap n0 Z54 Q54_0 Q54_1 Q54_3n ((Sm.room (Sm.inc (szK (1 : Int32) (by decide) q1).1 (by decide)) (by decide)) : ¬ ((256 : Int64) < (((((1 : Int32) + (f5 q1)) + (1 : Int32)).toInt64) + (1 : Int64)))) Q54_2 g_b7 (Ne.symm ne_b7_b8_0) g_b8_0 ((Sm.nn (Sm.inc (szK (1 : Int32) (by decide) q1).1 (by decide))) : ¬ (((1 : Int32) + (f5 q1)) + (1 : Int32)) < 0) ((Sm.lt (Sm.inc (szK (1 : Int32) (by decide) q1).1 (by decide)) (by decide)) : (((1 : Int32) + (f5 q1)) + (1 : Int32)).toNatClampNeg < 256) ne_b7_b8_0) hZ (hw _ (List.mem_of_getElem? (i := 53) rfl)) (hw _ (List.mem_of_getElem? (i := 2) rfl)) (by decide) (by decide)) q61a q61c (g := (mkF m 87 #[.val (.long q1), .second, .val (.int p2), .val (.int p3), .val (.int p4), .val (.int p5), .val (.int p6), .val (.ref b7), .val (.int (1 : Int32)), .val (.int v57), .val (.int v60), .unset, .unset, .unset, .unset] [(.int p4), (.ref b7)])) rfl (by rw [hml]; rfl) (Steps.refl _) (argsL := [(.int p4)]) (rest := []) (lenOf pd_7 rfl) rfl (by show 2 * 0 + _ ≤ _; exact Nat.le_of_eq rfl) (hb hby at_87) (fun _ _ => ⟨rfl, e59, (by decide : 2 + 0 ≤ _), (by decide : 258 + 0 ≤ _)⟩)
      dsimp only [Pt.U, Pt.locs, Pt.cells, Pt.slots] at X61 l61 y61 z61 st61 hQ61
      subst l61 y61 z61
      obtain ⟨rfl, N61q, K61, Q61_0, Q61_1, Q61_2, Q61_3⟩ := hQ61
      have N61 := Fr.app N59 N61q
      have E_b7_61 := Q54_2.keep K61
      have Z61 := Nat.le_trans Z54 K61.1
      have KK61 : Keep h0 T61.heap [] := KK54.trans K61 (allS (Or.inr sz_b7) (allS (Or.inr sz_b8_0) all0))
      refine Go.trans st61 ?_
      show Go p e below _ (T61.setTop (mkF m 90 #[.val (.long q1), .second, .val (.int p2), .val (.int p3), .val (.int p4), .val (.int p5), .val (.int p6), .val (.ref b7), .val (.int (1 : Int32)), .val (.int v57), .val (.int v60), .unset, .unset, .unset, .unset] []))
      refine Go.step (fun t k => XS.aload X61.here hx rfl (hb hby at_90) rfl rfl k) ?_
      show Go p e below _ (T61.setTop (mkF m 92 #[.val (.long q1), .second, .val (.int p2), .val (.int p3), .val (.int p4), .val (.int p5), .val (.int p6), .val (.ref b7), .val (.int (1 : Int32)), .val (.int v57), .val (.int v60), .unset, .unset, .unset, .unset] [(.ref b7)]))
      refine Go.step (fun t k => XS.iload X61.here hx rfl (hb hby at_92) rfl k) ?_
      show Go p e below _ (T61.setTop (mkF m 94 #[.val (.long q1), .second, .val (.int p2), .val (.int p3), .val (.int p4), .val (.int p5), .val (.int p6), .val (.ref b7), .val (.int (1 : Int32)), .val (.int v57), .val (.int v60), .unset, .unset, .unset, .unset] [(.int p5), (.ref b7)]))
      refine Go.step (fun t k => XS.bipush X61.here hx rfl (hb hby at_94)  k) ?_
      show Go p e below _ (T61.setTop (mkF m 96 #[.val (.long q1), .second, .val (.int p2), .val (.int p3), .val (.int p4), .val (.int p5), .val (.int p6), .val (.ref b7), .val (.int (1 : Int32)), .val (.int v57), .val (.int v60), .unset, .unset, .unset, .unset] [(.int (127 : Int32)), (.int p5), (.ref b7)]))
      refine Go.step (fun t k => XS.iand X61.here hx rfl (hb hby at_96) rfl k) ?_
      show Go p e below _ (T61.setTop (mkF m 97 #[.val (.long q1), .second, .val (.int p2), .val (.int p3), .val (.int p4), .val (.int p5), .val (.int p6), .val (.ref b7), .val (.int (1 : Int32)), .val (.int v57), .val (.int v60), .unset, .unset, .unset, .unset] [(.int (p5 &&& (127 : Int32))), (.ref b7)]))
      obtain ⟨cq62, kq62, q62a, q62b, q62c⟩ := isOf hZ rfl Q61_2
      obtain ⟨_, _, ⟨T62, L62, k62, n62⟩, -, X62, ⟨Lc62, hQ62, l62, y62, z62⟩, st62⟩ := X61.virtualBack hx (y := (⟨"com/example/tinwire/tinwire/codec/ByteOutput", "writeByte", "(I)V"⟩ : MethodName)) (z := (⟨"com/example/tinwire/tinwire/codec/ByteOutput", "writeByte", "(I)V"⟩ : MethodName)) hown (mvT hZ (hw _ (List.mem_of_getElem? (i := 49) rfl))) (mvT hZ (hw _ (List.mem_of_getElem? (i := 50) rfl))) (notFace_of_selects (args := #[]) (mvT hZ (hw _ (List.mem_of_getElem? (i := 52) rfl)))) (mvT hZ (hw _ (List.mem_of_getElem? (i := 52) rfl))) (mvT hZ (hw _ (List.mem_of_getElem? (i := 51) rfl))) (by decide) (backOf (W := 0) (rm11 l Z a0 hw [] b7 (p5 &&& (127 : Int32)) ((((1 : Int32) + (f5 q1)) + (1 : Int32)) + (1 : Int32)) b8_0 (upA (G1 (upA (fun _ => (0 : Int32)) (0 : Int32).toNatClampNeg (nar .byte (p2.toInt8.toInt32))) (1 : Int32) q1 p3) (((1 : Int32) + (f5 q1)) + (1 : Int32)).toNatClampNeg (nar .byte (p4.toInt8.toInt32))) T61.heap n0 Z61 Q61_0 Q61_1 Q61_3 ((Sm.room (Sm.inc (Sm.inc (szK (1 : Int32) (by decide) q1).1 (by decide)) (by decide)) (by decide)) : ¬ ((256 : Int64) < ((((((1 : Int32) + (f5 q1)) + (1 : Int32)) + (1 : Int32)).toInt64) + (1 : Int64)))) Q61_2 g_b7 (Ne.symm ne_b7_b8_0) g_b8_0 ((Sm.nn (Sm.inc (Sm.inc (szK (1 : Int32) (by decide) q1).1 (by decide)) (by decide))) : ¬ ((((1 : Int32) + (f5 q1)) + (1 : Int32)) + (1 : Int32)) < 0) ((Sm.lt (Sm.inc (Sm.inc (szK (1 : Int32) (by decide) q1).1 (by decide)) (by decide)) (by decide)) : ((((1 : Int32) + (f5 q1)) + (1 : Int32)) + (1 : Int32)).toNatClampNeg < 256) ne_b7_b8_0) hZ (hw _ (List.mem_of_getElem? (i := 53) rfl)) (hw _ (List.mem_of_getElem? (i := 2) rfl)) (by decide) (by decide)) q62a q62c (g := (mkF m 97 #[.val (.long q1), .second, .val (.int p2), .val (.int p3), .val (.int p4), .val (.int p5), .val (.int p6), .val (.ref b7), .val (.int (1 : Int32)), .val (.int v57), .val (.int v60), .unset, .unset, .unset, .unset] [(.int (p5 &&& (127 : Int32))), (.ref b7)])) rfl (by rw [hml]; rfl) (Steps.refl _) (argsL := [(.int (p5 &&& (127 : Int32)))]) (rest := []) (lenOf pd_7 rfl) rfl (by show 2 * 0 + _ ≤ _; exact Nat.le_of_eq rfl) (hb hby at_97) (fun _ _ => ⟨rfl, rfl, (by decide : 2 + 0 ≤ _), (by decide : 258 + 0 ≤ _)⟩)
      dsimp only [Pt.U, Pt.locs, Pt.cells, Pt.slots] at X62 l62 y62 z62 st62 hQ62
      subst l62 y62 z62
      obtain ⟨rfl, N62q, K62, Q62_0, Q62_1, Q62_2, Q62_3⟩ := hQ62
      have N62 := Fr.app N61 N62q
      have E_b7_62 := Q61_2.keep K62
      have Z62 := Nat.le_trans Z61 K62.1
      have KK62 : Keep h0 T62.heap [] := KK61.trans K62 (allS (Or.inr sz_b7) (allS (Or.inr sz_b8_0) all0))
      refine Go.trans st62 ?_
      show Go p e below _ (T62.setTop (mkF m 100 #[.val (.long q1), .second, .val (.int p2), .val (.int p3), .val (.int p4), .val (.int p5), .val (.int p6), .val (.ref b7), .val (.int (1 : Int32)), .val (.int v57), .val (.int v60), .unset, .unset, .unset, .unset] []))
      have Q62_3n : Ary Z T62.heap b8_0 .byte 256 (fun i => .int ((G3 (G1 (upA (fun _ => (0 : Int32)) (0 : Int32).toNatClampNeg (nar .byte (p2.toInt8.toInt32))) (1 : Int32) q1 p3) (((1 : Int32) + (f5 q1)) + (1 : Int32)) p4 p5) i)) := Q62_3
      show Go p e below _ (T62.setTop (mkF m 100 #[.val (.long q1), .second, .val (.int p2), .val (.int p3), .val (.int p4), .val (.int p5), .val (.int p6), .val (.ref b7), .val (.int (1 : Int32)), .val (.int v57), .val (.int v60), .unset, .unset, .unset, .unset] []))
      refine Go.step (fun t k => XS.iload X62.here hx rfl (hb hby at_100) rfl k) ?_
      show Go p e below _ (T62.setTop (mkF m 102 #[.val (.long q1), .second, .val (.int p2), .val (.int p3), .val (.int p4), .val (.int p5), .val (.int p6), .val (.ref b7), .val (.int (1 : Int32)), .val (.int v57), .val (.int v60), .unset, .unset, .unset, .unset] [(.int p4)]))
      refine Go.step (fun t k => XS.sipush X62.here hx rfl (hb hby at_102)  k) ?_
      show Go p e below _ (T62.setTop (mkF m 105 #[.val (.long q1), .second, .val (.int p2), .val (.int p3), .val (.int p4), .val (.int p5), .val (.int p6), .val (.ref b7), .val (.int (1 : Int32)), .val (.int v57), .val (.int v60), .unset, .unset, .unset, .unset] [(.int (255 : Int32)), (.int p4)]))
      refine Go.step (fun t k => XS.iand X62.here hx rfl (hb hby at_105) rfl k) ?_
      show Go p e below _ (T62.setTop (mkF m 106 #[.val (.long q1), .second, .val (.int p2), .val (.int p3), .val (.int p4), .val (.int p5), .val (.int p6), .val (.ref b7), .val (.int (1 : Int32)), .val (.int v57), .val (.int v60), .unset, .unset, .unset, .unset] [(.int (p4 &&& (255 : Int32)))]))
      obtain ⟨v63, hv63⟩ : ∃ z : Int32, z = (p4 &&& (255 : Int32)) := ⟨_, rfl⟩
      rw [← hv63]
      show Go p e below _ (T62.setTop (mkF m 106 #[.val (.long q1), .second, .val (.int p2), .val (.int p3), .val (.int p4), .val (.int p5), .val (.int p6), .val (.ref b7), .val (.int (1 : Int32)), .val (.int v57), .val (.int v60), .unset, .unset, .unset, .unset] [(.int v63)]))
      refine Go.step (fun t k => XS.istore X62.here hx rfl (hb hby at_106) rfl (l' := #[.val (.long q1), .second, .val (.int p2), .val (.int p3), .val (.int p4), .val (.int p5), .val (.int p6), .val (.ref b7), .val (.int (1 : Int32)), .val (.int v57), .val (.int v60), .val (.int v63), .unset, .unset, .unset]) rfl k) ?_
      show Go p e below _ (T62.setTop (mkF m 108 #[.val (.long q1), .second, .val (.int p2), .val (.int p3), .val (.int p4), .val (.int p5), .val (.int p6), .val (.ref b7), .val (.int (1 : Int32)), .val (.int v57), .val (.int v60), .val (.int v63), .unset, .unset, .unset] []))
      refine Go.step (fun t k => XS.iload X62.here hx rfl (hb hby at_108) rfl k) ?_
      show Go p e below _ (T62.setTop (mkF m 110 #[.val (.long q1), .second, .val (.int p2), .val (.int p3), .val (.int p4), .val (.int p5), .val (.int p6), .val (.ref b7), .val (.int (1 : Int32)), .val (.int v57), .val (.int v60), .val (.int v63), .unset, .unset, .unset] [(.int p5)]))
      refine Go.step (fun t k => XS.bipush X62.here hx rfl (hb hby at_110)  k) ?_
      show Go p e below _ (T62.setTop (mkF m 112 #[.val (.long q1), .second, .val (.int p2), .val (.int p3), .val (.int p4), .val (.int p5), .val (.int p6), .val (.ref b7), .val (.int (1 : Int32)), .val (.int v57), .val (.int v60), .val (.int v63), .unset, .unset, .unset] [(.int (127 : Int32)), (.int p5)]))
      refine Go.step (fun t k => XS.iand X62.here hx rfl (hb hby at_112) rfl k) ?_
      show Go p e below _ (T62.setTop (mkF m 113 #[.val (.long q1), .second, .val (.int p2), .val (.int p3), .val (.int p4), .val (.int p5), .val (.int p6), .val (.ref b7), .val (.int (1 : Int32)), .val (.int v57), .val (.int v60), .val (.int v63), .unset, .unset, .unset] [(.int (p5 &&& (127 : Int32)))]))
      obtain ⟨v64, hv64⟩ : ∃ z : Int32, z = (p5 &&& (127 : Int32)) := ⟨_, rfl⟩
      rw [← hv64]
      show Go p e below _ (T62.setTop (mkF m 113 #[.val (.long q1), .second, .val (.int p2), .val (.int p3), .val (.int p4), .val (.int p5), .val (.int p6), .val (.ref b7), .val (.int (1 : Int32)), .val (.int v57), .val (.int v60), .val (.int v63), .unset, .unset, .unset] [(.int v64)]))
      refine Go.step (fun t k => XS.istore X62.here hx rfl (hb hby at_113) rfl (l' := #[.val (.long q1), .second, .val (.int p2), .val (.int p3), .val (.int p4), .val (.int p5), .val (.int p6), .val (.ref b7), .val (.int (1 : Int32)), .val (.int v57), .val (.int v60), .val (.int v63), .val (.int v64), .unset, .unset]) rfl k) ?_
      show Go p e below _ (T62.setTop (mkF m 115 #[.val (.long q1), .second, .val (.int p2), .val (.int p3), .val (.int p4), .val (.int p5), .val (.int p6), .val (.ref b7), .val (.int (1 : Int32)), .val (.int v57), .val (.int v60), .val (.int v63), .val (.int v64), .unset, .unset] []))
      refine Go.step (fun t k => XS.iload X62.here hx rfl (hb hby at_115) rfl k) ?_
      show Go p e below _ (T62.setTop (mkF m 117 #[.val (.long q1), .second, .val (.int p2), .val (.int p3), .val (.int p4), .val (.int p5), .val (.int p6), .val (.ref b7), .val (.int (1 : Int32)), .val (.int v57), .val (.int v60), .val (.int v63), .val (.int v64), .unset, .unset] [(.int v63)]))
      refine Go.step (fun t k => XS.sipush X62.here hx rfl (hb hby at_117)  k) ?_
      show Go p e below _ (T62.setTop (mkF m 120 #[.val (.long q1), .second, .val (.int p2), .val (.int p3), .val (.int p4), .val (.int p5), .val (.int p6), .val (.ref b7), .val (.int (1 : Int32)), .val (.int v57), .val (.int v60), .val (.int v63), .val (.int v64), .unset, .unset] [(.int (128 : Int32)), (.int v63)]))
      obtain ⟨v66, hv66⟩ : ∃ z : Int64, z = (if v63 < (128 : Int32) then (v63.toInt64) else (((v63 &&& (127 : Int32)).toInt64) ||| ((v64.toInt64) <<< ((7 : Int32) &&& 0x3f).toInt64))) := ⟨_, rfl⟩
      have J120 : Go p e below (AtF p l e room_1 s m #[(.long q1), (.int p2), (.int p3), (.int p4), (.int p5), (.int p6)] below meth c n0 2 258 T62.heap (mkF m 142 #[.val (.long q1), .second, .val (.int p2), .val (.int p3), .val (.int p4), .val (.int p5), .val (.int p6), .val (.ref b7), .val (.int (1 : Int32)), .val (.int v57), .val (.int v60), .val (.int v63), .val (.int v64), .unset, .unset] [(.long v66)])) (T62.setTop (mkF m 120 #[.val (.long q1), .second, .val (.int p2), .val (.int p3), .val (.int p4), .val (.int p5), .val (.int p6), .val (.ref b7), .val (.int (1 : Int32)), .val (.int v57), .val (.int v60), .val (.int v63), .val (.int v64), .unset, .unset] [(.int (128 : Int32)), (.int v63)])) := by
        by_cases hc65 : v63 < (128 : Int32)
        · refine Go.step (fun t k => XS.icmpNo X62.here hx rfl (hb hby at_120) rfl (tlt hc65).2.1 k) ?_
          show Go p e below _ (T62.setTop (mkF m 123 #[.val (.long q1), .second, .val (.int p2), .val (.int p3), .val (.int p4), .val (.int p5), .val (.int p6), .val (.ref b7), .val (.int (1 : Int32)), .val (.int v57), .val (.int v60), .val (.int v63), .val (.int v64), .unset, .unset] []))
          refine Go.step (fun t k => XS.iload X62.here hx rfl (hb hby at_123) rfl k) ?_
          show Go p e below _ (T62.setTop (mkF m 125 #[.val (.long q1), .second, .val (.int p2), .val (.int p3), .val (.int p4), .val (.int p5), .val (.int p6), .val (.ref b7), .val (.int (1 : Int32)), .val (.int v57), .val (.int v60), .val (.int v63), .val (.int v64), .unset, .unset] [(.int v63)]))
          refine Go.step (fun t k => XS.i2l X62.here hx rfl (hb hby at_125) rfl k) ?_
          show Go p e below _ (T62.setTop (mkF m 126 #[.val (.long q1), .second, .val (.int p2), .val (.int p3), .val (.int p4), .val (.int p5), .val (.int p6), .val (.ref b7), .val (.int (1 : Int32)), .val (.int v57), .val (.int v60), .val (.int v63), .val (.int v64), .unset, .unset] [(.long (v63.toInt64))]))
          refine Go.step (fun t k => XS.goto X62.here hx rfl (pc0 := 126) (pc' := 142) rfl (hb hby at_126) (by decide) (by decide) k) ?_
          show Go p e below _ (T62.setTop (mkF m 142 #[.val (.long q1), .second, .val (.int p2), .val (.int p3), .val (.int p4), .val (.int p5), .val (.int p6), .val (.ref b7), .val (.int (1 : Int32)), .val (.int v57), .val (.int v60), .val (.int v63), .val (.int v64), .unset, .unset] [(.long (v63.toInt64))]))
          exact Go.here ⟨_, _, by simp only [hv66, if_pos hc65], X62, N62, rfl⟩
        · refine Go.step (fun t k => XS.icmpYes X62.here hx rfl (pc0 := 120) (pc' := 129) rfl (hb hby at_120) rfl (flt hc65).2.1 (by decide) (by decide) k) ?_
          show Go p e below _ (T62.setTop (mkF m 129 #[.val (.long q1), .second, .val (.int p2), .val (.int p3), .val (.int p4), .val (.int p5), .val (.int p6), .val (.ref b7), .val (.int (1 : Int32)), .val (.int v57), .val (.int v60), .val (.int v63), .val (.int v64), .unset, .unset] []))
          refine Go.step (fun t k => XS.iload X62.here hx rfl (hb hby at_129) rfl k) ?_
          show Go p e below _ (T62.setTop (mkF m 131 #[.val (.long q1), .second, .val (.int p2), .val (.int p3), .val (.int p4), .val (.int p5), .val (.int p6), .val (.ref b7), .val (.int (1 : Int32)), .val (.int v57), .val (.int v60), .val (.int v63), .val (.int v64), .unset, .unset] [(.int v63)]))
          refine Go.step (fun t k => XS.bipush X62.here hx rfl (hb hby at_131)  k) ?_
          show Go p e below _ (T62.setTop (mkF m 133 #[.val (.long q1), .second, .val (.int p2), .val (.int p3), .val (.int p4), .val (.int p5), .val (.int p6), .val (.ref b7), .val (.int (1 : Int32)), .val (.int v57), .val (.int v60), .val (.int v63), .val (.int v64), .unset, .unset] [(.int (127 : Int32)), (.int v63)]))
          refine Go.step (fun t k => XS.iand X62.here hx rfl (hb hby at_133) rfl k) ?_
          show Go p e below _ (T62.setTop (mkF m 134 #[.val (.long q1), .second, .val (.int p2), .val (.int p3), .val (.int p4), .val (.int p5), .val (.int p6), .val (.ref b7), .val (.int (1 : Int32)), .val (.int v57), .val (.int v60), .val (.int v63), .val (.int v64), .unset, .unset] [(.int (v63 &&& (127 : Int32)))]))
          refine Go.step (fun t k => XS.i2l X62.here hx rfl (hb hby at_134) rfl k) ?_
          show Go p e below _ (T62.setTop (mkF m 135 #[.val (.long q1), .second, .val (.int p2), .val (.int p3), .val (.int p4), .val (.int p5), .val (.int p6), .val (.ref b7), .val (.int (1 : Int32)), .val (.int v57), .val (.int v60), .val (.int v63), .val (.int v64), .unset, .unset] [(.long ((v63 &&& (127 : Int32)).toInt64))]))
          refine Go.step (fun t k => XS.iload X62.here hx rfl (hb hby at_135) rfl k) ?_
          show Go p e below _ (T62.setTop (mkF m 137 #[.val (.long q1), .second, .val (.int p2), .val (.int p3), .val (.int p4), .val (.int p5), .val (.int p6), .val (.ref b7), .val (.int (1 : Int32)), .val (.int v57), .val (.int v60), .val (.int v63), .val (.int v64), .unset, .unset] [(.int v64), (.long ((v63 &&& (127 : Int32)).toInt64))]))
          refine Go.step (fun t k => XS.i2l X62.here hx rfl (hb hby at_137) rfl k) ?_
          show Go p e below _ (T62.setTop (mkF m 138 #[.val (.long q1), .second, .val (.int p2), .val (.int p3), .val (.int p4), .val (.int p5), .val (.int p6), .val (.ref b7), .val (.int (1 : Int32)), .val (.int v57), .val (.int v60), .val (.int v63), .val (.int v64), .unset, .unset] [(.long (v64.toInt64)), (.long ((v63 &&& (127 : Int32)).toInt64))]))
          refine Go.step (fun t k => XS.bipush X62.here hx rfl (hb hby at_138)  k) ?_
          show Go p e below _ (T62.setTop (mkF m 140 #[.val (.long q1), .second, .val (.int p2), .val (.int p3), .val (.int p4), .val (.int p5), .val (.int p6), .val (.ref b7), .val (.int (1 : Int32)), .val (.int v57), .val (.int v60), .val (.int v63), .val (.int v64), .unset, .unset] [(.int (7 : Int32)), (.long (v64.toInt64)), (.long ((v63 &&& (127 : Int32)).toInt64))]))
          refine Go.step (fun t k => XS.lshl X62.here hx rfl (hb hby at_140) rfl k) ?_
          show Go p e below _ (T62.setTop (mkF m 141 #[.val (.long q1), .second, .val (.int p2), .val (.int p3), .val (.int p4), .val (.int p5), .val (.int p6), .val (.ref b7), .val (.int (1 : Int32)), .val (.int v57), .val (.int v60), .val (.int v63), .val (.int v64), .unset, .unset] [(.long ((v64.toInt64) <<< ((7 : Int32) &&& 0x3f).toInt64)), (.long ((v63 &&& (127 : Int32)).toInt64))]))
          refine Go.step (fun t k => XS.lor X62.here hx rfl (hb hby at_141) rfl k) ?_
          show Go p e below _ (T62.setTop (mkF m 142 #[.val (.long q1), .second, .val (.int p2), .val (.int p3), .val (.int p4), .val (.int p5), .val (.int p6), .val (.ref b7), .val (.int (1 : Int32)), .val (.int v57), .val (.int v60), .val (.int v63), .val (.int v64), .unset, .unset] [(.long (((v63 &&& (127 : Int32)).toInt64) ||| ((v64.toInt64) <<< ((7 : Int32) &&& 0x3f).toInt64)))]))
          exact Go.here ⟨_, _, by simp only [hv66, if_neg hc65], X62, N62, rfl⟩
      obtain ⟨_, st67, T67, Lj67, rfl, X67, N67, e67⟩ := J120
      refine Go.trans st67 ?_
      show Go p e below _ (T67.setTop (mkF m 142 #[.val (.long q1), .second, .val (.int p2), .val (.int p3), .val (.int p4), .val (.int p5), .val (.int p6), .val (.ref b7), .val (.int (1 : Int32)), .val (.int v57), .val (.int v60), .val (.int v63), .val (.int v64), .unset, .unset] [(.long v66)]))
      refine Go.step (fun t k => XS.lstore X67.here hx rfl (hb hby at_142) rfl (l' := #[.val (.long q1), .second, .val (.int p2), .val (.int p3), .val (.int p4), .val (.int p5), .val (.int p6), .val (.ref b7), .val (.int (1 : Int32)), .val (.int v57), .val (.int v60), .val (.int v63), .val (.int v64), .val (.long v66), .second]) rfl k) ?_
      show Go p e below _ (T67.setTop (mkF m 144 #[.val (.long q1), .second, .val (.int p2), .val (.int p3), .val (.int p4), .val (.int p5), .val (.int p6), .val (.ref b7), .val (.int (1 : Int32)), .val (.int v57), .val (.int v60), .val (.int v63), .val (.int v64), .val (.long v66), .second] []))
      refine Go.step (fun t k => XS.iload X67.here hx rfl (hb hby at_144) rfl k) ?_
      show Go p e below _ (T67.setTop (mkF m 146 #[.val (.long q1), .second, .val (.int p2), .val (.int p3), .val (.int p4), .val (.int p5), .val (.int p6), .val (.ref b7), .val (.int (1 : Int32)), .val (.int v57), .val (.int v60), .val (.int v63), .val (.int v64), .val (.long v66), .second] [(.int v57)]))
      by_cases hc68 : v57 = (0 : Int32)
      · refine Go.step (fun t k => XS.ifYes X67.here hx rfl (pc0 := 146) (pc' := 166) rfl (hb hby at_146) rfl ((if0 _ _).trans (teq hc68).1) (by decide) (by decide) k) ?_
        show Go p e below _ (T67.setTop (mkF m 166 #[.val (.long q1), .second, .val (.int p2), .val (.int p3), .val (.int p4), .val (.int p5), .val (.int p6), .val (.ref b7), .val (.int (1 : Int32)), .val (.int v57), .val (.int v60), .val (.int v63), .val (.int v64), .val (.long v66), .second] []))
        refine Go.step (fun t k => XS.iconst X67.here hx rfl (hb hby at_166)  k) ?_
        show Go p e below _ (T67.setTop (mkF m 167 #[.val (.long q1), .second, .val (.int p2), .val (.int p3), .val (.int p4), .val (.int p5), .val (.int p6), .val (.ref b7), .val (.int (1 : Int32)), .val (.int v57), .val (.int v60), .val (.int v63), .val (.int v64), .val (.long v66), .second] [(.int (0 : Int32))]))
        subst hv66
        subst hv64
        subst hv63
        subst hv60
        subst hv57
        exact retGN X67 hx Bd.notSynchronized Bd.returns (t := .boolean) (by simp) (z' := (0 : Int32)) rfl (hb hby at_167) ⟨by first | (simp only [f0, if_neg hc9, if_pos hc51, if_pos hc68]; done) | rfl | (simp [f0, if_neg hc9, if_pos hc51, if_pos hc68]; done), N67⟩ (by decide) (by decide)
      · refine Go.step (fun t k => XS.ifNo X67.here hx rfl (hb hby at_146) rfl ((if0 _ _).trans (feq hc68).1) k) ?_
        show Go p e below _ (T67.setTop (mkF m 149 #[.val (.long q1), .second, .val (.int p2), .val (.int p3), .val (.int p4), .val (.int p5), .val (.int p6), .val (.ref b7), .val (.int (1 : Int32)), .val (.int v57), .val (.int v60), .val (.int v63), .val (.int v64), .val (.long v66), .second] []))
        refine Go.step (fun t k => XS.aload X67.here hx rfl (hb hby at_149) rfl rfl k) ?_
        show Go p e below _ (T67.setTop (mkF m 151 #[.val (.long q1), .second, .val (.int p2), .val (.int p3), .val (.int p4), .val (.int p5), .val (.int p6), .val (.ref b7), .val (.int (1 : Int32)), .val (.int v57), .val (.int v60), .val (.int v63), .val (.int v64), .val (.long v66), .second] [(.ref b7)]))
        refine Go.step (fun t k => XS.iload X67.here hx rfl (hb hby at_151) rfl k) ?_
        show Go p e below _ (T67.setTop (mkF m 153 #[.val (.long q1), .second, .val (.int p2), .val (.int p3), .val (.int p4), .val (.int p5), .val (.int p6), .val (.ref b7), .val (.int (1 : Int32)), .val (.int v57), .val (.int v60), .val (.int v63), .val (.int v64), .val (.long v66), .second] [(.int v60), (.ref b7)]))
        obtain ⟨cq69, kq69, q69a, q69b, q69c⟩ := isOf hZ e67 Q62_2
        obtain ⟨_, _, ⟨T69, L69, k69, n69⟩, -, X69, ⟨Lc69, hQ69, l69, y69, z69⟩, st69⟩ := X67.virtualBack hx (y := (⟨"com/example/tinwire/tinwire/codec/ByteOutput", "varintAt", "(I)J"⟩ : MethodName)) (z := (⟨"com/example/tinwire/tinwire/codec/ByteOutput", "varintAt", "(I)J"⟩ : MethodName)) hown (mvT hZ (hw _ (List.mem_of_getElem? (i := 54) rfl))) (mvT hZ (hw _ (List.mem_of_getElem? (i := 55) rfl))) (notFace_of_selects (args := #[]) (mvT hZ (hw _ (List.mem_of_getElem? (i := 57) rfl)))) (mvT hZ (hw _ (List.mem_of_getElem? (i := 57) rfl))) (mvT hZ (hw _ (List.mem_of_getElem? (i := 56) rfl))) (by decide) (backOf (W := 0) (rm12 l Z a0 hw [] b7 v60 b8_0 (G3 (G1 (upA (fun _ => (0 : Int32)) (0 : Int32).toNatClampNeg (nar .byte (p2.toInt8.toInt32))) (1 : Int32) q1 p3) (((1 : Int32) + (f5 q1)) + (1 : Int32)) p4 p5) (jj p4) T62.heap n0 Z62 ((by subst hv60; exact (va2 (G1 (upA (fun _ => (0 : Int32)) (0 : Int32).toNatClampNeg (nar .byte (p2.toInt8.toInt32))) (1 : Int32) q1 p3) (((1 : Int32) + (f5 q1)) + (1 : Int32)) p4 p5 (own_sm (Sm.inc (szK (1 : Int32) (by decide) q1).1 (by decide)))).1) : ∀ i, i < (jj p4) → (G3 (G1 (upA (fun _ => (0 : Int32)) (0 : Int32).toNatClampNeg (nar .byte (p2.toInt8.toInt32))) (1 : Int32) q1 p3) (((1 : Int32) + (f5 q1)) + (1 : Int32)) p4 p5) (v60.toNatClampNeg + i) < 0) ((by subst hv60; exact (va2 (G1 (upA (fun _ => (0 : Int32)) (0 : Int32).toNatClampNeg (nar .byte (p2.toInt8.toInt32))) (1 : Int32) q1 p3) (((1 : Int32) + (f5 q1)) + (1 : Int32)) p4 p5 (own_sm (Sm.inc (szK (1 : Int32) (by decide) q1).1 (by decide)))).2.1) : ¬ (G3 (G1 (upA (fun _ => (0 : Int32)) (0 : Int32).toNatClampNeg (nar .byte (p2.toInt8.toInt32))) (1 : Int32) q1 p3) (((1 : Int32) + (f5 q1)) + (1 : Int32)) p4 p5) (v60.toNatClampNeg + (jj p4)) < 0) ((by subst hv60; exact (va2 (G1 (upA (fun _ => (0 : Int32)) (0 : Int32).toNatClampNeg (nar .byte (p2.toInt8.toInt32))) (1 : Int32) q1 p3) (((1 : Int32) + (f5 q1)) + (1 : Int32)) p4 p5 (own_sm (Sm.inc (szK (1 : Int32) (by decide) q1).1 (by decide)))).2.2.1) : 0 ≤ v60.toInt ∧ v60.toInt + (jj p4) < 256) Q62_1 Q62_3n) hZ (hw _ (List.mem_of_getElem? (i := 58) rfl)) (hw _ (List.mem_of_getElem? (i := 2) rfl)) (by decide) (by decide)) q69a q69c (g := (mkF m 153 #[.val (.long q1), .second, .val (.int p2), .val (.int p3), .val (.int p4), .val (.int p5), .val (.int p6), .val (.ref b7), .val (.int (1 : Int32)), .val (.int v57), .val (.int v60), .val (.int v63), .val (.int v64), .val (.long v66), .second] [(.int v60), (.ref b7)])) rfl (by rw [hml]; rfl) (Steps.refl _) (argsL := [(.int v60)]) (rest := []) (lenOf pd_8 rfl) rfl (by show 2 * 0 + _ ≤ _; exact Nat.le_of_eq rfl) (hb hby at_153) (fun _ _ => ⟨rfl, e67, (by decide : 2 + 0 ≤ _), (by decide : 258 + 0 ≤ _)⟩)
        dsimp only [Pt.U, Pt.locs, Pt.cells, Pt.slots] at X69 l69 y69 z69 st69 hQ69
        subst l69 y69 z69
        obtain ⟨rfl, N69q, e69⟩ := hQ69
        have N69 := Fr.app N67 N69q
        refine Go.trans st69 ?_
        show Go p e below _ (T69.setTop (mkF m 156 #[.val (.long q1), .second, .val (.int p2), .val (.int p3), .val (.int p4), .val (.int p5), .val (.int p6), .val (.ref b7), .val (.int (1 : Int32)), .val (.int v57), .val (.int v60), .val (.int v63), .val (.int v64), .val (.long v66), .second] [(.long (vaR (jj p4) (G3 (G1 (upA (fun _ => (0 : Int32)) (0 : Int32).toNatClampNeg (nar .byte (p2.toInt8.toInt32))) (1 : Int32) q1 p3) (((1 : Int32) + (f5 q1)) + (1 : Int32)) p4 p5) v60 (0 : Int32) (0 : Int64)))]))
        refine Go.step (fun t k => XS.lload X69.here hx rfl (hb hby at_156) rfl k) ?_
        show Go p e below _ (T69.setTop (mkF m 158 #[.val (.long q1), .second, .val (.int p2), .val (.int p3), .val (.int p4), .val (.int p5), .val (.int p6), .val (.ref b7), .val (.int (1 : Int32)), .val (.int v57), .val (.int v60), .val (.int v63), .val (.int v64), .val (.long v66), .second] [(.long v66), (.long (vaR (jj p4) (G3 (G1 (upA (fun _ => (0 : Int32)) (0 : Int32).toNatClampNeg (nar .byte (p2.toInt8.toInt32))) (1 : Int32) q1 p3) (((1 : Int32) + (f5 q1)) + (1 : Int32)) p4 p5) v60 (0 : Int32) (0 : Int64)))]))
        refine Go.step (fun t k => XS.lcmp X69.here hx rfl (hb hby at_158) rfl k) ?_
        show Go p e below _ (T69.setTop (mkF m 159 #[.val (.long q1), .second, .val (.int p2), .val (.int p3), .val (.int p4), .val (.int p5), .val (.int p6), .val (.ref b7), .val (.int (1 : Int32)), .val (.int v57), .val (.int v60), .val (.int v63), .val (.int v64), .val (.long v66), .second] [(.int (lcmpW (vaR (jj p4) (G3 (G1 (upA (fun _ => (0 : Int32)) (0 : Int32).toNatClampNeg (nar .byte (p2.toInt8.toInt32))) (1 : Int32) q1 p3) (((1 : Int32) + (f5 q1)) + (1 : Int32)) p4 p5) v60 (0 : Int32) (0 : Int64)) v66))]))
        by_cases hc70 : (vaR (jj p4) (G3 (G1 (upA (fun _ => (0 : Int32)) (0 : Int32).toNatClampNeg (nar .byte (p2.toInt8.toInt32))) (1 : Int32) q1 p3) (((1 : Int32) + (f5 q1)) + (1 : Int32)) p4 p5) v60 (0 : Int32) (0 : Int64)) = v66
        · refine Go.step (fun t k => XS.ifNo X69.here hx rfl (hb hby at_159) rfl ((if0 _ _).trans (teq ((lw_eq _ _).mpr hc70)).2) k) ?_
          show Go p e below _ (T69.setTop (mkF m 162 #[.val (.long q1), .second, .val (.int p2), .val (.int p3), .val (.int p4), .val (.int p5), .val (.int p6), .val (.ref b7), .val (.int (1 : Int32)), .val (.int v57), .val (.int v60), .val (.int v63), .val (.int v64), .val (.long v66), .second] []))
          refine Go.step (fun t k => XS.iconst X69.here hx rfl (hb hby at_162)  k) ?_
          show Go p e below _ (T69.setTop (mkF m 163 #[.val (.long q1), .second, .val (.int p2), .val (.int p3), .val (.int p4), .val (.int p5), .val (.int p6), .val (.ref b7), .val (.int (1 : Int32)), .val (.int v57), .val (.int v60), .val (.int v63), .val (.int v64), .val (.long v66), .second] [(.int (1 : Int32))]))
          refine Go.step (fun t k => XS.goto X69.here hx rfl (pc0 := 163) (pc' := 167) rfl (hb hby at_163) (by decide) (by decide) k) ?_
          show Go p e below _ (T69.setTop (mkF m 167 #[.val (.long q1), .second, .val (.int p2), .val (.int p3), .val (.int p4), .val (.int p5), .val (.int p6), .val (.ref b7), .val (.int (1 : Int32)), .val (.int v57), .val (.int v60), .val (.int v63), .val (.int v64), .val (.long v66), .second] [(.int (1 : Int32))]))
          subst hv66
          subst hv64
          subst hv63
          subst hv60
          subst hv57
          exact retGN X69 hx Bd.notSynchronized Bd.returns (t := .boolean) (by simp) (z' := (1 : Int32)) rfl (hb hby at_167) ⟨by first | (simp only [f0, if_neg hc9, if_pos hc51, if_neg hc68, if_pos hc70]; done) | rfl | (simp [f0, if_neg hc9, if_pos hc51, if_neg hc68, if_pos hc70]; done), N69⟩ (by decide) (by decide)
        · refine Go.step (fun t k => XS.ifYes X69.here hx rfl (pc0 := 159) (pc' := 166) rfl (hb hby at_159) rfl ((if0 _ _).trans (feq (fun q => hc70 ((lw_eq _ _).mp q))).2) (by decide) (by decide) k) ?_
          show Go p e below _ (T69.setTop (mkF m 166 #[.val (.long q1), .second, .val (.int p2), .val (.int p3), .val (.int p4), .val (.int p5), .val (.int p6), .val (.ref b7), .val (.int (1 : Int32)), .val (.int v57), .val (.int v60), .val (.int v63), .val (.int v64), .val (.long v66), .second] []))
          refine Go.step (fun t k => XS.iconst X69.here hx rfl (hb hby at_166)  k) ?_
          show Go p e below _ (T69.setTop (mkF m 167 #[.val (.long q1), .second, .val (.int p2), .val (.int p3), .val (.int p4), .val (.int p5), .val (.int p6), .val (.ref b7), .val (.int (1 : Int32)), .val (.int v57), .val (.int v60), .val (.int v63), .val (.int v64), .val (.long v66), .second] [(.int (0 : Int32))]))
          subst hv66
          subst hv64
          subst hv63
          subst hv60
          subst hv57
          exact retGN X69 hx Bd.notSynchronized Bd.returns (t := .boolean) (by simp) (z' := (0 : Int32)) rfl (hb hby at_167) ⟨by first | (simp only [f0, if_neg hc9, if_pos hc51, if_neg hc68, if_neg hc70]; done) | rfl | (simp [f0, if_neg hc9, if_pos hc51, if_neg hc68, if_neg hc70]; done), N69⟩ (by decide) (by decide)
    · refine Go.step (fun t k => XS.ifNo X50.here hx rfl (hb hby at_26) rfl ((if0 _ _).trans (feq hc51).1) k) ?_
      show Go p e below _ (T50.setTop (mkF m 29 #[.val (.long q1), .second, .val (.int p2), .val (.int p3), .val (.int p4), .val (.int p5), .val (.int p6), .val (.ref b7), .unset, .unset, .unset, .unset, .unset, .unset, .unset] []))
      refine Go.step (fun t k => XS.aload X50.here hx rfl (hb hby at_29) rfl rfl k) ?_
      show Go p e below _ (T50.setTop (mkF m 31 #[.val (.long q1), .second, .val (.int p2), .val (.int p3), .val (.int p4), .val (.int p5), .val (.int p6), .val (.ref b7), .unset, .unset, .unset, .unset, .unset, .unset, .unset] [(.ref b7)]))
      refine Go.step (fun t k => XS.iloadN X50.here hx rfl (hb hby at_31) rfl k) ?_
      show Go p e below _ (T50.setTop (mkF m 32 #[.val (.long q1), .second, .val (.int p2), .val (.int p3), .val (.int p4), .val (.int p5), .val (.int p6), .val (.ref b7), .unset, .unset, .unset, .unset, .unset, .unset, .unset] [(.int p2), (.ref b7)]))
      refine Go.step (fun t k => XS.bipush X50.here hx rfl (hb hby at_32)  k) ?_
      show Go p e below _ (T50.setTop (mkF m 34 #[.val (.long q1), .second, .val (.int p2), .val (.int p3), .val (.int p4), .val (.int p5), .val (.int p6), .val (.ref b7), .unset, .unset, .unset, .unset, .unset, .unset, .unset] [(.int (8 : Int32)), (.int p2), (.ref b7)]))
      refine Go.step (fun t k => XS.ishr X50.here hx rfl (hb hby at_34) rfl k) ?_
      show Go p e below _ (T50.setTop (mkF m 35 #[.val (.long q1), .second, .val (.int p2), .val (.int p3), .val (.int p4), .val (.int p5), .val (.int p6), .val (.ref b7), .unset, .unset, .unset, .unset, .unset, .unset, .unset] [(.int (p2 >>> ((8 : Int32) &&& 31))), (.ref b7)]))
      obtain ⟨cq71, kq71, q71a, q71b, q71c⟩ := isOf hZ rfl Q50_2
      obtain ⟨_, _, ⟨T71, L71, k71, n71⟩, -, X71, ⟨Lc71, hQ71, l71, y71, z71⟩, st71⟩ := X50.virtualBack hx (y := (⟨"com/example/tinwire/tinwire/codec/ByteOutput", "writeByte", "(I)V"⟩ : MethodName)) (z := (⟨"com/example/tinwire/tinwire/codec/ByteOutput", "writeByte", "(I)V"⟩ : MethodName)) hown (mvT hZ (hw _ (List.mem_of_getElem? (i := 49) rfl))) (mvT hZ (hw _ (List.mem_of_getElem? (i := 50) rfl))) (notFace_of_selects (args := #[]) (mvT hZ (hw _ (List.mem_of_getElem? (i := 52) rfl)))) (mvT hZ (hw _ (List.mem_of_getElem? (i := 52) rfl))) (mvT hZ (hw _ (List.mem_of_getElem? (i := 51) rfl))) (by decide) (backOf (W := 0) (rm11 l Z a0 hw [] b7 (p2 >>> ((8 : Int32) &&& 31)) (1 : Int32) b8_0 (upA (fun _ => (0 : Int32)) (0 : Int32).toNatClampNeg (nar .byte (p2.toInt8.toInt32))) T50.heap n0 Z50 Q50_0 Q50_1 Q50_3 ((by decide) : ¬ ((256 : Int64) < (((1 : Int32).toInt64) + (1 : Int64)))) Q50_2 g_b7 (Ne.symm ne_b7_b8_0) g_b8_0 ((by decide) : ¬ (1 : Int32) < 0) ((by decide) : (1 : Int32).toNatClampNeg < 256) ne_b7_b8_0) hZ (hw _ (List.mem_of_getElem? (i := 53) rfl)) (hw _ (List.mem_of_getElem? (i := 2) rfl)) (by decide) (by decide)) q71a q71c (g := (mkF m 35 #[.val (.long q1), .second, .val (.int p2), .val (.int p3), .val (.int p4), .val (.int p5), .val (.int p6), .val (.ref b7), .unset, .unset, .unset, .unset, .unset, .unset, .unset] [(.int (p2 >>> ((8 : Int32) &&& 31))), (.ref b7)])) rfl (by rw [hml]; rfl) (Steps.refl _) (argsL := [(.int (p2 >>> ((8 : Int32) &&& 31)))]) (rest := []) (lenOf pd_7 rfl) rfl (by show 2 * 0 + _ ≤ _; exact Nat.le_of_eq rfl) (hb hby at_35) (fun _ _ => ⟨rfl, rfl, (by decide : 2 + 0 ≤ _), (by decide : 258 + 0 ≤ _)⟩)
      dsimp only [Pt.U, Pt.locs, Pt.cells, Pt.slots] at X71 l71 y71 z71 st71 hQ71
      subst l71 y71 z71
      obtain ⟨rfl, N71q, K71, Q71_0, Q71_1, Q71_2, Q71_3⟩ := hQ71
      have N71 := Fr.app N50 N71q
      have E_b7_71 := Q50_2.keep K71
      have Z71 := Nat.le_trans Z50 K71.1
      have KK71 : Keep h0 T71.heap [] := KK50.trans K71 (allS (Or.inr sz_b7) (allS (Or.inr sz_b8_0) all0))
      refine Go.trans st71 ?_
      show Go p e below _ (T71.setTop (mkF m 38 #[.val (.long q1), .second, .val (.int p2), .val (.int p3), .val (.int p4), .val (.int p5), .val (.int p6), .val (.ref b7), .unset, .unset, .unset, .unset, .unset, .unset, .unset] []))
      refine Go.step (fun t k => XS.aload X71.here hx rfl (hb hby at_38) rfl rfl k) ?_
      show Go p e below _ (T71.setTop (mkF m 40 #[.val (.long q1), .second, .val (.int p2), .val (.int p3), .val (.int p4), .val (.int p5), .val (.int p6), .val (.ref b7), .unset, .unset, .unset, .unset, .unset, .unset, .unset] [(.ref b7)]))
      obtain ⟨cq72, kq72, q72a, q72b, q72c⟩ := isOf hZ rfl Q71_2
      obtain ⟨_, _, ⟨T72, L72, k72, n72⟩, -, X72, ⟨Lc72, hQ72, l72, y72, z72⟩, st72⟩ := X71.virtualBack hx (y := (⟨"com/example/tinwire/tinwire/codec/ByteOutput", "size", "()I"⟩ : MethodName)) (z := (⟨"com/example/tinwire/tinwire/codec/ByteOutput", "size", "()I"⟩ : MethodName)) hown (mvT hZ (hw _ (List.mem_of_getElem? (i := 12) rfl))) (mvT hZ (hw _ (List.mem_of_getElem? (i := 13) rfl))) (notFace_of_selects (args := #[]) (mvT hZ (hw _ (List.mem_of_getElem? (i := 15) rfl)))) (mvT hZ (hw _ (List.mem_of_getElem? (i := 15) rfl))) (mvT hZ (hw _ (List.mem_of_getElem? (i := 14) rfl))) (by decide) (backOf (W := 0) (rm3 l Z a0 hw [] b7 (2 : Int32) T71.heap n0 Z71 Q71_0) hZ (hw _ (List.mem_of_getElem? (i := 16) rfl)) (hw _ (List.mem_of_getElem? (i := 2) rfl)) (by decide) (by decide)) q72a q72c (g := (mkF m 40 #[.val (.long q1), .second, .val (.int p2), .val (.int p3), .val (.int p4), .val (.int p5), .val (.int p6), .val (.ref b7), .unset, .unset, .unset, .unset, .unset, .unset, .unset] [(.ref b7)])) rfl (by rw [hml]; rfl) (Steps.refl _) (argsL := []) (rest := []) (lenOf pd_6 rfl) rfl (by show 2 * 0 + _ ≤ _; exact Nat.le_of_eq rfl) (hb hby at_40) (fun _ _ => ⟨rfl, rfl, (by decide : 2 + 0 ≤ _), (by decide : 258 + 0 ≤ _)⟩)
      dsimp only [Pt.U, Pt.locs, Pt.cells, Pt.slots] at X72 l72 y72 z72 st72 hQ72
      subst l72 y72 z72
      obtain ⟨rfl, N72q, e72⟩ := hQ72
      have N72 := Fr.app N71 N72q
      refine Go.trans st72 ?_
      show Go p e below _ (T72.setTop (mkF m 43 #[.val (.long q1), .second, .val (.int p2), .val (.int p3), .val (.int p4), .val (.int p5), .val (.int p6), .val (.ref b7), .unset, .unset, .unset, .unset, .unset, .unset, .unset] [(.int (2 : Int32))]))
      refine Go.step (fun t k => XS.istore X72.here hx rfl (hb hby at_43) rfl (l' := #[.val (.long q1), .second, .val (.int p2), .val (.int p3), .val (.int p4), .val (.int p5), .val (.int p6), .val (.ref b7), .val (.int (2 : Int32)), .unset, .unset, .unset, .unset, .unset, .unset]) rfl k) ?_
      show Go p e below _ (T72.setTop (mkF m 45 #[.val (.long q1), .second, .val (.int p2), .val (.int p3), .val (.int p4), .val (.int p5), .val (.int p6), .val (.ref b7), .val (.int (2 : Int32)), .unset, .unset, .unset, .unset, .unset, .unset] []))
      refine Go.step (fun t k => XS.aload X72.here hx rfl (hb hby at_45) rfl rfl k) ?_
      show Go p e below _ (T72.setTop (mkF m 47 #[.val (.long q1), .second, .val (.int p2), .val (.int p3), .val (.int p4), .val (.int p5), .val (.int p6), .val (.ref b7), .val (.int (2 : Int32)), .unset, .unset, .unset, .unset, .unset, .unset] [(.ref b7)]))
      refine Go.step (fun t k => XS.lloadN X72.here hx rfl (hb hby at_47) rfl k) ?_
      show Go p e below _ (T72.setTop (mkF m 48 #[.val (.long q1), .second, .val (.int p2), .val (.int p3), .val (.int p4), .val (.int p5), .val (.int p6), .val (.ref b7), .val (.int (2 : Int32)), .unset, .unset, .unset, .unset, .unset, .unset] [(.long q1), (.ref b7)]))
      obtain ⟨cq73, kq73, q73a, q73b, q73c⟩ := isOf hZ e72 Q71_2
      obtain ⟨_, _, ⟨T73, L73, k73, n73⟩, -, X73, ⟨Lc73, hQ73, l73, y73, z73⟩, st73⟩ := X72.virtualBack hx (y := (⟨"com/example/tinwire/tinwire/codec/ByteOutput", "writeVarint", "(J)V"⟩ : MethodName)) (z := (⟨"com/example/tinwire/tinwire/codec/ByteOutput", "writeVarint", "(J)V"⟩ : MethodName)) hown (mvT hZ (hw _ (List.mem_of_getElem? (i := 19) rfl))) (mvT hZ (hw _ (List.mem_of_getElem? (i := 20) rfl))) (notFace_of_selects (args := #[]) (mvT hZ (hw _ (List.mem_of_getElem? (i := 22) rfl)))) (mvT hZ (hw _ (List.mem_of_getElem? (i := 22) rfl))) (mvT hZ (hw _ (List.mem_of_getElem? (i := 21) rfl))) (by decide) (backOf (W := 0) (rm4 l Z a0 hw [] b7 q1 (2 : Int32) b8_0 (upA (upA (fun _ => (0 : Int32)) (0 : Int32).toNatClampNeg (nar .byte (p2.toInt8.toInt32))) (1 : Int32).toNatClampNeg (nar .byte ((p2 >>> ((8 : Int32) &&& 31)).toInt8.toInt32))) T71.heap n0 Z71 ((by decide) : 0 ≤ (2 : Int32).toInt ∧ (2 : Int32).toInt + (9 : Nat) < 256) Q71_0 Q71_1 Q71_3 Q71_2 g_b8_0 ne_b7_b8_0 g_b7 (Ne.symm ne_b7_b8_0)) hZ (hw _ (List.mem_of_getElem? (i := 23) rfl)) (hw _ (List.mem_of_getElem? (i := 2) rfl)) (by decide) (by decide)) q73a q73c (g := (mkF m 48 #[.val (.long q1), .second, .val (.int p2), .val (.int p3), .val (.int p4), .val (.int p5), .val (.int p6), .val (.ref b7), .val (.int (2 : Int32)), .unset, .unset, .unset, .unset, .unset, .unset] [(.long q1), (.ref b7)])) rfl (by rw [hml]; rfl) (Steps.refl _) (argsL := [(.long q1)]) (rest := []) (lenOf pd_3 rfl) rfl (by show 2 * 0 + _ ≤ _; exact Nat.le_of_eq rfl) (hb hby at_48) (fun _ _ => ⟨rfl, e72, (by decide : 2 + 0 ≤ _), (by decide : 258 + 0 ≤ _)⟩)
      dsimp only [Pt.U, Pt.locs, Pt.cells, Pt.slots] at X73 l73 y73 z73 st73 hQ73
      subst l73 y73 z73
      obtain ⟨rfl, N73q, K73, Q73_0, Q73_1, Q73_2, Q73_3⟩ := hQ73
      have N73 := Fr.app N72 N73q
      have E_b7_73 := Q71_2.keep K73
      have Z73 := Nat.le_trans Z71 K73.1
      have KK73 : Keep h0 T73.heap [] := KK71.trans K73 (allS (Or.inr sz_b8_0) (allS (Or.inr sz_b7) all0))
      refine Go.trans st73 ?_
      show Go p e below _ (T73.setTop (mkF m 51 #[.val (.long q1), .second, .val (.int p2), .val (.int p3), .val (.int p4), .val (.int p5), .val (.int p6), .val (.ref b7), .val (.int (2 : Int32)), .unset, .unset, .unset, .unset, .unset, .unset] []))
      refine Go.step (fun t k => XS.aload X73.here hx rfl (hb hby at_51) rfl rfl k) ?_
      show Go p e below _ (T73.setTop (mkF m 53 #[.val (.long q1), .second, .val (.int p2), .val (.int p3), .val (.int p4), .val (.int p5), .val (.int p6), .val (.ref b7), .val (.int (2 : Int32)), .unset, .unset, .unset, .unset, .unset, .unset] [(.ref b7)]))
      refine Go.step (fun t k => XS.iloadN X73.here hx rfl (hb hby at_53) rfl k) ?_
      show Go p e below _ (T73.setTop (mkF m 54 #[.val (.long q1), .second, .val (.int p2), .val (.int p3), .val (.int p4), .val (.int p5), .val (.int p6), .val (.ref b7), .val (.int (2 : Int32)), .unset, .unset, .unset, .unset, .unset, .unset] [(.int p3), (.ref b7)]))
      obtain ⟨cq74, kq74, q74a, q74b, q74c⟩ := isOf hZ rfl Q73_2
      obtain ⟨_, _, ⟨T74, L74, k74, n74⟩, -, X74, ⟨Lc74, hQ74, l74, y74, z74⟩, st74⟩ := X73.virtualBack hx (y := (⟨"com/example/tinwire/tinwire/codec/ByteOutput", "writeByte", "(I)V"⟩ : MethodName)) (z := (⟨"com/example/tinwire/tinwire/codec/ByteOutput", "writeByte", "(I)V"⟩ : MethodName)) hown (mvT hZ (hw _ (List.mem_of_getElem? (i := 49) rfl))) (mvT hZ (hw _ (List.mem_of_getElem? (i := 50) rfl))) (notFace_of_selects (args := #[]) (mvT hZ (hw _ (List.mem_of_getElem? (i := 52) rfl)))) (mvT hZ (hw _ (List.mem_of_getElem? (i := 52) rfl))) (mvT hZ (hw _ (List.mem_of_getElem? (i := 51) rfl))) (by decide) (backOf (W := 0) (rm11 l Z a0 hw [] b7 p3 ((2 : Int32) + (f5 q1)) b8_0 (pvF 9 (upA (upA (fun _ => (0 : Int32)) (0 : Int32).toNatClampNeg (nar .byte (p2.toInt8.toInt32))) (1 : Int32).toNatClampNeg (nar .byte ((p2 >>> ((8 : Int32) &&& 31)).toInt8.toInt32))) (2 : Int32) q1) T73.heap n0 Z73 Q73_0 Q73_1 Q73_3 ((Sm.room (szK (2 : Int32) (by decide) q1).1 (by decide)) : ¬ ((256 : Int64) < ((((2 : Int32) + (f5 q1)).toInt64) + (1 : Int64)))) Q73_2 g_b7 (Ne.symm ne_b7_b8_0) g_b8_0 ((Sm.nn (szK (2 : Int32) (by decide) q1).1) : ¬ ((2 : Int32) + (f5 q1)) < 0) ((Sm.lt (szK (2 : Int32) (by decide) q1).1 (by decide)) : ((2 : Int32) + (f5 q1)).toNatClampNeg < 256) ne_b7_b8_0) hZ (hw _ (List.mem_of_getElem? (i := 53) rfl)) (hw _ (List.mem_of_getElem? (i := 2) rfl)) (by decide) (by decide)) q74a q74c (g := (mkF m 54 #[.val (.long q1), .second, .val (.int p2), .val (.int p3), .val (.int p4), .val (.int p5), .val (.int p6), .val (.ref b7), .val (.int (2 : Int32)), .unset, .unset, .unset, .unset, .unset, .unset] [(.int p3), (.ref b7)])) rfl (by rw [hml]; rfl) (Steps.refl _) (argsL := [(.int p3)]) (rest := []) (lenOf pd_7 rfl) rfl (by show 2 * 0 + _ ≤ _; exact Nat.le_of_eq rfl) (hb hby at_54) (fun _ _ => ⟨rfl, rfl, (by decide : 2 + 0 ≤ _), (by decide : 258 + 0 ≤ _)⟩)
      dsimp only [Pt.U, Pt.locs, Pt.cells, Pt.slots] at X74 l74 y74 z74 st74 hQ74
      subst l74 y74 z74
      obtain ⟨rfl, N74q, K74, Q74_0, Q74_1, Q74_2, Q74_3⟩ := hQ74
      have N74 := Fr.app N73 N74q
      have E_b7_74 := Q73_2.keep K74
      have Z74 := Nat.le_trans Z73 K74.1
      have KK74 : Keep h0 T74.heap [] := KK73.trans K74 (allS (Or.inr sz_b7) (allS (Or.inr sz_b8_0) all0))
      refine Go.trans st74 ?_
      show Go p e below _ (T74.setTop (mkF m 57 #[.val (.long q1), .second, .val (.int p2), .val (.int p3), .val (.int p4), .val (.int p5), .val (.int p6), .val (.ref b7), .val (.int (2 : Int32)), .unset, .unset, .unset, .unset, .unset, .unset] []))
      have Q74_3n : Ary Z T74.heap b8_0 .byte 256 (fun i => .int ((G1 (upA (upA (fun _ => (0 : Int32)) (0 : Int32).toNatClampNeg (nar .byte (p2.toInt8.toInt32))) (1 : Int32).toNatClampNeg (nar .byte ((p2 >>> ((8 : Int32) &&& 31)).toInt8.toInt32))) (2 : Int32) q1 p3) i)) := Q74_3
      show Go p e below _ (T74.setTop (mkF m 57 #[.val (.long q1), .second, .val (.int p2), .val (.int p3), .val (.int p4), .val (.int p5), .val (.int p6), .val (.ref b7), .val (.int (2 : Int32)), .unset, .unset, .unset, .unset, .unset, .unset] []))
      refine Go.step (fun t k => XS.aload X74.here hx rfl (hb hby at_57) rfl rfl k) ?_
      show Go p e below _ (T74.setTop (mkF m 59 #[.val (.long q1), .second, .val (.int p2), .val (.int p3), .val (.int p4), .val (.int p5), .val (.int p6), .val (.ref b7), .val (.int (2 : Int32)), .unset, .unset, .unset, .unset, .unset, .unset] [(.ref b7)]))
      refine Go.step (fun t k => XS.iload X74.here hx rfl (hb hby at_59) rfl k) ?_
      show Go p e below _ (T74.setTop (mkF m 61 #[.val (.long q1), .second, .val (.int p2), .val (.int p3), .val (.int p4), .val (.int p5), .val (.int p6), .val (.ref b7), .val (.int (2 : Int32)), .unset, .unset, .unset, .unset, .unset, .unset] [(.int (2 : Int32)), (.ref b7)]))
      obtain ⟨cq75, kq75, q75a, q75b, q75c⟩ := isOf hZ rfl Q74_2
      obtain ⟨_, _, ⟨T75, L75, k75, n75⟩, -, X75, ⟨Lc75, hQ75, l75, y75, z75⟩, st75⟩ := X74.virtualBack hx (y := (⟨"com/example/tinwire/tinwire/codec/ByteOutput", "varintAt", "(I)J"⟩ : MethodName)) (z := (⟨"com/example/tinwire/tinwire/codec/ByteOutput", "varintAt", "(I)J"⟩ : MethodName)) hown (mvT hZ (hw _ (List.mem_of_getElem? (i := 54) rfl))) (mvT hZ (hw _ (List.mem_of_getElem? (i := 55) rfl))) (notFace_of_selects (args := #[]) (mvT hZ (hw _ (List.mem_of_getElem? (i := 57) rfl)))) (mvT hZ (hw _ (List.mem_of_getElem? (i := 57) rfl))) (mvT hZ (hw _ (List.mem_of_getElem? (i := 56) rfl))) (by decide) (backOf (W := 0) (rm12 l Z a0 hw [] b7 (2 : Int32) b8_0 (G1 (upA (upA (fun _ => (0 : Int32)) (0 : Int32).toNatClampNeg (nar .byte (p2.toInt8.toInt32))) (1 : Int32).toNatClampNeg (nar .byte ((p2 >>> ((8 : Int32) &&& 31)).toInt8.toInt32))) (2 : Int32) q1 p3) ((f5 q1).toInt.toNat - 1 : Nat) T74.heap n0 Z74 ((va1 (upA (upA (fun _ => (0 : Int32)) (0 : Int32).toNatClampNeg (nar .byte (p2.toInt8.toInt32))) (1 : Int32).toNatClampNeg (nar .byte ((p2 >>> ((8 : Int32) &&& 31)).toInt8.toInt32))) (2 : Int32) (by decide) q1 p3).1 : ∀ i, i < ((f5 q1).toInt.toNat - 1 : Nat) → (G1 (upA (upA (fun _ => (0 : Int32)) (0 : Int32).toNatClampNeg (nar .byte (p2.toInt8.toInt32))) (1 : Int32).toNatClampNeg (nar .byte ((p2 >>> ((8 : Int32) &&& 31)).toInt8.toInt32))) (2 : Int32) q1 p3) ((2 : Int32).toNatClampNeg + i) < 0) ((va1 (upA (upA (fun _ => (0 : Int32)) (0 : Int32).toNatClampNeg (nar .byte (p2.toInt8.toInt32))) (1 : Int32).toNatClampNeg (nar .byte ((p2 >>> ((8 : Int32) &&& 31)).toInt8.toInt32))) (2 : Int32) (by decide) q1 p3).2.1 : ¬ (G1 (upA (upA (fun _ => (0 : Int32)) (0 : Int32).toNatClampNeg (nar .byte (p2.toInt8.toInt32))) (1 : Int32).toNatClampNeg (nar .byte ((p2 >>> ((8 : Int32) &&& 31)).toInt8.toInt32))) (2 : Int32) q1 p3) ((2 : Int32).toNatClampNeg + ((f5 q1).toInt.toNat - 1 : Nat)) < 0) ((va1 (upA (upA (fun _ => (0 : Int32)) (0 : Int32).toNatClampNeg (nar .byte (p2.toInt8.toInt32))) (1 : Int32).toNatClampNeg (nar .byte ((p2 >>> ((8 : Int32) &&& 31)).toInt8.toInt32))) (2 : Int32) (by decide) q1 p3).2.2.1 : 0 ≤ (2 : Int32).toInt ∧ (2 : Int32).toInt + ((f5 q1).toInt.toNat - 1 : Nat) < 256) Q74_1 Q74_3n) hZ (hw _ (List.mem_of_getElem? (i := 58) rfl)) (hw _ (List.mem_of_getElem? (i := 2) rfl)) (by decide) (by decide)) q75a q75c (g := (mkF m 61 #[.val (.long q1), .second, .val (.int p2), .val (.int p3), .val (.int p4), .val (.int p5), .val (.int p6), .val (.ref b7), .val (.int (2 : Int32)), .unset, .unset, .unset, .unset, .unset, .unset] [(.int (2 : Int32)), (.ref b7)])) rfl (by rw [hml]; rfl) (Steps.refl _) (argsL := [(.int (2 : Int32))]) (rest := []) (lenOf pd_8 rfl) rfl (by show 2 * 0 + _ ≤ _; exact Nat.le_of_eq rfl) (hb hby at_61) (fun _ _ => ⟨rfl, rfl, (by decide : 2 + 0 ≤ _), (by decide : 258 + 0 ≤ _)⟩)
      dsimp only [Pt.U, Pt.locs, Pt.cells, Pt.slots] at X75 l75 y75 z75 st75 hQ75
      subst l75 y75 z75
      obtain ⟨rfl, N75q, e75⟩ := hQ75
      have N75 := Fr.app N74 N75q
      refine Go.trans st75 ?_
      show Go p e below _ (T75.setTop (mkF m 64 #[.val (.long q1), .second, .val (.int p2), .val (.int p3), .val (.int p4), .val (.int p5), .val (.int p6), .val (.ref b7), .val (.int (2 : Int32)), .unset, .unset, .unset, .unset, .unset, .unset] [(.long (vaR ((f5 q1).toInt.toNat - 1 : Nat) (G1 (upA (upA (fun _ => (0 : Int32)) (0 : Int32).toNatClampNeg (nar .byte (p2.toInt8.toInt32))) (1 : Int32).toNatClampNeg (nar .byte ((p2 >>> ((8 : Int32) &&& 31)).toInt8.toInt32))) (2 : Int32) q1 p3) (2 : Int32) (0 : Int32) (0 : Int64)))]))
      refine Go.step (fun t k => XS.lloadN X75.here hx rfl (hb hby at_64) rfl k) ?_
      show Go p e below _ (T75.setTop (mkF m 65 #[.val (.long q1), .second, .val (.int p2), .val (.int p3), .val (.int p4), .val (.int p5), .val (.int p6), .val (.ref b7), .val (.int (2 : Int32)), .unset, .unset, .unset, .unset, .unset, .unset] [(.long q1), (.long (vaR ((f5 q1).toInt.toNat - 1 : Nat) (G1 (upA (upA (fun _ => (0 : Int32)) (0 : Int32).toNatClampNeg (nar .byte (p2.toInt8.toInt32))) (1 : Int32).toNatClampNeg (nar .byte ((p2 >>> ((8 : Int32) &&& 31)).toInt8.toInt32))) (2 : Int32) q1 p3) (2 : Int32) (0 : Int32) (0 : Int64)))]))
      refine Go.step (fun t k => XS.lcmp X75.here hx rfl (hb hby at_65) rfl k) ?_
      show Go p e below _ (T75.setTop (mkF m 66 #[.val (.long q1), .second, .val (.int p2), .val (.int p3), .val (.int p4), .val (.int p5), .val (.int p6), .val (.ref b7), .val (.int (2 : Int32)), .unset, .unset, .unset, .unset, .unset, .unset] [(.int (lcmpW (vaR ((f5 q1).toInt.toNat - 1 : Nat) (G1 (upA (upA (fun _ => (0 : Int32)) (0 : Int32).toNatClampNeg (nar .byte (p2.toInt8.toInt32))) (1 : Int32).toNatClampNeg (nar .byte ((p2 >>> ((8 : Int32) &&& 31)).toInt8.toInt32))) (2 : Int32) q1 p3) (2 : Int32) (0 : Int32) (0 : Int64)) q1))]))
      obtain ⟨v77, hv77⟩ : ∃ z : Int32, z = (if (vaR ((f5 q1).toInt.toNat - 1 : Nat) (G1 (upA (upA (fun _ => (0 : Int32)) (0 : Int32).toNatClampNeg (nar .byte (p2.toInt8.toInt32))) (1 : Int32).toNatClampNeg (nar .byte ((p2 >>> ((8 : Int32) &&& 31)).toInt8.toInt32))) (2 : Int32) q1 p3) (2 : Int32) (0 : Int32) (0 : Int64)) = q1 then (1 : Int32) else (0 : Int32)) := ⟨_, rfl⟩
      have J66 : Go p e below (AtF p l e room_1 s m #[(.long q1), (.int p2), (.int p3), (.int p4), (.int p5), (.int p6)] below meth c n0 2 258 T74.heap (mkF m 74 #[.val (.long q1), .second, .val (.int p2), .val (.int p3), .val (.int p4), .val (.int p5), .val (.int p6), .val (.ref b7), .val (.int (2 : Int32)), .unset, .unset, .unset, .unset, .unset, .unset] [(.int v77)])) (T75.setTop (mkF m 66 #[.val (.long q1), .second, .val (.int p2), .val (.int p3), .val (.int p4), .val (.int p5), .val (.int p6), .val (.ref b7), .val (.int (2 : Int32)), .unset, .unset, .unset, .unset, .unset, .unset] [(.int (lcmpW (vaR ((f5 q1).toInt.toNat - 1 : Nat) (G1 (upA (upA (fun _ => (0 : Int32)) (0 : Int32).toNatClampNeg (nar .byte (p2.toInt8.toInt32))) (1 : Int32).toNatClampNeg (nar .byte ((p2 >>> ((8 : Int32) &&& 31)).toInt8.toInt32))) (2 : Int32) q1 p3) (2 : Int32) (0 : Int32) (0 : Int64)) q1))])) := by
        by_cases hc76 : (vaR ((f5 q1).toInt.toNat - 1 : Nat) (G1 (upA (upA (fun _ => (0 : Int32)) (0 : Int32).toNatClampNeg (nar .byte (p2.toInt8.toInt32))) (1 : Int32).toNatClampNeg (nar .byte ((p2 >>> ((8 : Int32) &&& 31)).toInt8.toInt32))) (2 : Int32) q1 p3) (2 : Int32) (0 : Int32) (0 : Int64)) = q1
        · refine Go.step (fun t k => XS.ifNo X75.here hx rfl (hb hby at_66) rfl ((if0 _ _).trans (teq ((lw_eq _ _).mpr hc76)).2) k) ?_
          show Go p e below _ (T75.setTop (mkF m 69 #[.val (.long q1), .second, .val (.int p2), .val (.int p3), .val (.int p4), .val (.int p5), .val (.int p6), .val (.ref b7), .val (.int (2 : Int32)), .unset, .unset, .unset, .unset, .unset, .unset] []))
          refine Go.step (fun t k => XS.iconst X75.here hx rfl (hb hby at_69)  k) ?_
          show Go p e below _ (T75.setTop (mkF m 70 #[.val (.long q1), .second, .val (.int p2), .val (.int p3), .val (.int p4), .val (.int p5), .val (.int p6), .val (.ref b7), .val (.int (2 : Int32)), .unset, .unset, .unset, .unset, .unset, .unset] [(.int (1 : Int32))]))
          refine Go.step (fun t k => XS.goto X75.here hx rfl (pc0 := 70) (pc' := 74) rfl (hb hby at_70) (by decide) (by decide) k) ?_
          show Go p e below _ (T75.setTop (mkF m 74 #[.val (.long q1), .second, .val (.int p2), .val (.int p3), .val (.int p4), .val (.int p5), .val (.int p6), .val (.ref b7), .val (.int (2 : Int32)), .unset, .unset, .unset, .unset, .unset, .unset] [(.int (1 : Int32))]))
          exact Go.here ⟨_, _, by simp only [hv77, if_pos hc76], X75, N75, e75⟩
        · refine Go.step (fun t k => XS.ifYes X75.here hx rfl (pc0 := 66) (pc' := 73) rfl (hb hby at_66) rfl ((if0 _ _).trans (feq (fun q => hc76 ((lw_eq _ _).mp q))).2) (by decide) (by decide) k) ?_
          show Go p e below _ (T75.setTop (mkF m 73 #[.val (.long q1), .second, .val (.int p2), .val (.int p3), .val (.int p4), .val (.int p5), .val (.int p6), .val (.ref b7), .val (.int (2 : Int32)), .unset, .unset, .unset, .unset, .unset, .unset] []))
          refine Go.step (fun t k => XS.iconst X75.here hx rfl (hb hby at_73)  k) ?_
          show Go p e below _ (T75.setTop (mkF m 74 #[.val (.long q1), .second, .val (.int p2), .val (.int p3), .val (.int p4), .val (.int p5), .val (.int p6), .val (.ref b7), .val (.int (2 : Int32)), .unset, .unset, .unset, .unset, .unset, .unset] [(.int (0 : Int32))]))
          exact Go.here ⟨_, _, by simp only [hv77, if_neg hc76], X75, N75, e75⟩
      obtain ⟨_, st78, T78, Lj78, rfl, X78, N78, e78⟩ := J66
      refine Go.trans st78 ?_
      show Go p e below _ (T78.setTop (mkF m 74 #[.val (.long q1), .second, .val (.int p2), .val (.int p3), .val (.int p4), .val (.int p5), .val (.int p6), .val (.ref b7), .val (.int (2 : Int32)), .unset, .unset, .unset, .unset, .unset, .unset] [(.int v77)]))
      refine Go.step (fun t k => XS.istore X78.here hx rfl (hb hby at_74) rfl (l' := #[.val (.long q1), .second, .val (.int p2), .val (.int p3), .val (.int p4), .val (.int p5), .val (.int p6), .val (.ref b7), .val (.int (2 : Int32)), .val (.int v77), .unset, .unset, .unset, .unset, .unset]) rfl k) ?_
      show Go p e below _ (T78.setTop (mkF m 76 #[.val (.long q1), .second, .val (.int p2), .val (.int p3), .val (.int p4), .val (.int p5), .val (.int p6), .val (.ref b7), .val (.int (2 : Int32)), .val (.int v77), .unset, .unset, .unset, .unset, .unset] []))
      refine Go.step (fun t k => XS.aload X78.here hx rfl (hb hby at_76) rfl rfl k) ?_
      show Go p e below _ (T78.setTop (mkF m 78 #[.val (.long q1), .second, .val (.int p2), .val (.int p3), .val (.int p4), .val (.int p5), .val (.int p6), .val (.ref b7), .val (.int (2 : Int32)), .val (.int v77), .unset, .unset, .unset, .unset, .unset] [(.ref b7)]))
      obtain ⟨cq79, kq79, q79a, q79b, q79c⟩ := isOf hZ e78 Q74_2
      obtain ⟨_, _, ⟨T79, L79, k79, n79⟩, -, X79, ⟨Lc79, hQ79, l79, y79, z79⟩, st79⟩ := X78.virtualBack hx (y := (⟨"com/example/tinwire/tinwire/codec/ByteOutput", "size", "()I"⟩ : MethodName)) (z := (⟨"com/example/tinwire/tinwire/codec/ByteOutput", "size", "()I"⟩ : MethodName)) hown (mvT hZ (hw _ (List.mem_of_getElem? (i := 12) rfl))) (mvT hZ (hw _ (List.mem_of_getElem? (i := 13) rfl))) (notFace_of_selects (args := #[]) (mvT hZ (hw _ (List.mem_of_getElem? (i := 15) rfl)))) (mvT hZ (hw _ (List.mem_of_getElem? (i := 15) rfl))) (mvT hZ (hw _ (List.mem_of_getElem? (i := 14) rfl))) (by decide) (backOf (W := 0) (rm3 l Z a0 hw [] b7 (((2 : Int32) + (f5 q1)) + (1 : Int32)) T74.heap n0 Z74 Q74_0) hZ (hw _ (List.mem_of_getElem? (i := 16) rfl)) (hw _ (List.mem_of_getElem? (i := 2) rfl)) (by decide) (by decide)) q79a q79c (g := (mkF m 78 #[.val (.long q1), .second, .val (.int p2), .val (.int p3), .val (.int p4), .val (.int p5), .val (.int p6), .val (.ref b7), .val (.int (2 : Int32)), .val (.int v77), .unset, .unset, .unset, .unset, .unset] [(.ref b7)])) rfl (by rw [hml]; rfl) (Steps.refl _) (argsL := []) (rest := []) (lenOf pd_6 rfl) rfl (by show 2 * 0 + _ ≤ _; exact Nat.le_of_eq rfl) (hb hby at_78) (fun _ _ => ⟨rfl, e78, (by decide : 2 + 0 ≤ _), (by decide : 258 + 0 ≤ _)⟩)
      dsimp only [Pt.U, Pt.locs, Pt.cells, Pt.slots] at X79 l79 y79 z79 st79 hQ79
      subst l79 y79 z79
      obtain ⟨rfl, N79q, e79⟩ := hQ79
      have N79 := Fr.app N78 N79q
      refine Go.trans st79 ?_
      show Go p e below _ (T79.setTop (mkF m 81 #[.val (.long q1), .second, .val (.int p2), .val (.int p3), .val (.int p4), .val (.int p5), .val (.int p6), .val (.ref b7), .val (.int (2 : Int32)), .val (.int v77), .unset, .unset, .unset, .unset, .unset] [(.int (((2 : Int32) + (f5 q1)) + (1 : Int32)))]))
      obtain ⟨v80, hv80⟩ : ∃ z : Int32, z = (((2 : Int32) + (f5 q1)) + (1 : Int32)) := ⟨_, rfl⟩
      rw [← hv80]
      show Go p e below _ (T79.setTop (mkF m 81 #[.val (.long q1), .second, .val (.int p2), .val (.int p3), .val (.int p4), .val (.int p5), .val (.int p6), .val (.ref b7), .val (.int (2 : Int32)), .val (.int v77), .unset, .unset, .unset, .unset, .unset] [(.int v80)]))
      refine Go.step (fun t k => XS.istore X79.here hx rfl (hb hby at_81) rfl (l' := #[.val (.long q1), .second, .val (.int p2), .val (.int p3), .val (.int p4), .val (.int p5), .val (.int p6), .val (.ref b7), .val (.int (2 : Int32)), .val (.int v77), .val (.int v80), .unset, .unset, .unset, .unset]) rfl k) ?_
      show Go p e below _ (T79.setTop (mkF m 83 #[.val (.long q1), .second, .val (.int p2), .val (.int p3), .val (.int p4), .val (.int p5), .val (.int p6), .val (.ref b7), .val (.int (2 : Int32)), .val (.int v77), .val (.int v80), .unset, .unset, .unset, .unset] []))
      refine Go.step (fun t k => XS.aload X79.here hx rfl (hb hby at_83) rfl rfl k) ?_
      show Go p e below _ (T79.setTop (mkF m 85 #[.val (.long q1), .second, .val (.int p2), .val (.int p3), .val (.int p4), .val (.int p5), .val (.int p6), .val (.ref b7), .val (.int (2 : Int32)), .val (.int v77), .val (.int v80), .unset, .unset, .unset, .unset] [(.ref b7)]))
      refine Go.step (fun t k => XS.iload X79.here hx rfl (hb hby at_85) rfl k) ?_
      show Go p e below _ (T79.setTop (mkF m 87 #[.val (.long q1), .second, .val (.int p2), .val (.int p3), .val (.int p4), .val (.int p5), .val (.int p6), .val (.ref b7), .val (.int (2 : Int32)), .val (.int v77), .val (.int v80), .unset, .unset, .unset, .unset] [(.int p4), (.ref b7)]))
      obtain ⟨cq81, kq81, q81a, q81b, q81c⟩ := isOf hZ e79 Q74_2
      obtain ⟨_, _, ⟨T81, L81, k81, n81⟩, -, X81, ⟨Lc81, hQ81, l81, y81, z81⟩, st81⟩ := X79.virtualBack hx (y := (⟨"com/example/tinwire/tinwire/codec/ByteOutput", "writeByte", "(I)V"⟩ : MethodName)) (z := (⟨"com/example/tinwire/tinwire/codec/ByteOutput", "writeByte", "(I)V"⟩ : MethodName)) hown (mvT hZ (hw _ (List.mem_of_getElem? (i := 49) rfl))) (mvT hZ (hw _ (List.mem_of_getElem? (i := 50) rfl))) (notFace_of_selects (args := #[]) (mvT hZ (hw _ (List.mem_of_getElem? (i := 52) rfl)))) (mvT hZ (hw _ (List.mem_of_getElem? (i := 52) rfl))) (mvT hZ (hw _ (List.mem_of_getElem? (i := 51) rfl))) (by decide) (backOf (W := 0) (rm11 l Z a0 hw [] b7 p4 (((2 : Int32) + (f5 q1)) + (1 : Int32)) b8_0 (G1 (upA (upA (fun _ => (0 : Int32)) (0 : Int32).toNatClampNeg (nar .byte (p2.toInt8.toInt32))) (1 : Int32).toNatClampNeg (nar .byte ((p2 >>> ((8 : Int32) &&& 31)).toInt8.toInt32))) (2 : Int32) q1 p3) T74.heap n0 Z74 Q74_0 Q74_1 Q74_3n ((Sm.room (Sm.inc (szK (2 : Int32) (by decide) q1).1 (by decide)) (by decide)) : ¬ ((256 : Int64) < (((((2 : Int32) + (f5 q1)) + (1 : Int32)).toInt64) + (1 : Int64)))) Q74_2 g_b7 (Ne.symm ne_b7_b8_0) g_b8_0 ((Sm.nn (Sm.inc (szK (2 : Int32) (by decide) q1).1 (by decide))) : ¬ (((2 : Int32) + (f5 q1)) + (1 : Int32)) < 0) ((Sm.lt (Sm.inc (szK (2 : Int32) (by decide) q1).1 (by decide)) (by decide)) : (((2 : Int32) + (f5 q1)) + (1 : Int32)).toNatClampNeg < 256) ne_b7_b8_0) hZ (hw _ (List.mem_of_getElem? (i := 53) rfl)) (hw _ (List.mem_of_getElem? (i := 2) rfl)) (by decide) (by decide)) q81a q81c (g := (mkF m 87 #[.val (.long q1), .second, .val (.int p2), .val (.int p3), .val (.int p4), .val (.int p5), .val (.int p6), .val (.ref b7), .val (.int (2 : Int32)), .val (.int v77), .val (.int v80), .unset, .unset, .unset, .unset] [(.int p4), (.ref b7)])) rfl (by rw [hml]; rfl) (Steps.refl _) (argsL := [(.int p4)]) (rest := []) (lenOf pd_7 rfl) rfl (by show 2 * 0 + _ ≤ _; exact Nat.le_of_eq rfl) (hb hby at_87) (fun _ _ => ⟨rfl, e79, (by decide : 2 + 0 ≤ _), (by decide : 258 + 0 ≤ _)⟩)
      dsimp only [Pt.U, Pt.locs, Pt.cells, Pt.slots] at X81 l81 y81 z81 st81 hQ81
      subst l81 y81 z81
      obtain ⟨rfl, N81q, K81, Q81_0, Q81_1, Q81_2, Q81_3⟩ := hQ81
      have N81 := Fr.app N79 N81q
      have E_b7_81 := Q74_2.keep K81
      have Z81 := Nat.le_trans Z74 K81.1
      have KK81 : Keep h0 T81.heap [] := KK74.trans K81 (allS (Or.inr sz_b7) (allS (Or.inr sz_b8_0) all0))
      refine Go.trans st81 ?_
      show Go p e below _ (T81.setTop (mkF m 90 #[.val (.long q1), .second, .val (.int p2), .val (.int p3), .val (.int p4), .val (.int p5), .val (.int p6), .val (.ref b7), .val (.int (2 : Int32)), .val (.int v77), .val (.int v80), .unset, .unset, .unset, .unset] []))
      refine Go.step (fun t k => XS.aload X81.here hx rfl (hb hby at_90) rfl rfl k) ?_
      show Go p e below _ (T81.setTop (mkF m 92 #[.val (.long q1), .second, .val (.int p2), .val (.int p3), .val (.int p4), .val (.int p5), .val (.int p6), .val (.ref b7), .val (.int (2 : Int32)), .val (.int v77), .val (.int v80), .unset, .unset, .unset, .unset] [(.ref b7)]))
      refine Go.step (fun t k => XS.iload X81.here hx rfl (hb hby at_92) rfl k) ?_
      show Go p e below _ (T81.setTop (mkF m 94 #[.val (.long q1), .second, .val (.int p2), .val (.int p3), .val (.int p4), .val (.int p5), .val (.int p6), .val (.ref b7), .val (.int (2 : Int32)), .val (.int v77), .val (.int v80), .unset, .unset, .unset, .unset] [(.int p5), (.ref b7)]))
      refine Go.step (fun t k => XS.bipush X81.here hx rfl (hb hby at_94)  k) ?_
      show Go p e below _ (T81.setTop (mkF m 96 #[.val (.long q1), .second, .val (.int p2), .val (.int p3), .val (.int p4), .val (.int p5), .val (.int p6), .val (.ref b7), .val (.int (2 : Int32)), .val (.int v77), .val (.int v80), .unset, .unset, .unset, .unset] [(.int (127 : Int32)), (.int p5), (.ref b7)]))
      refine Go.step (fun t k => XS.iand X81.here hx rfl (hb hby at_96) rfl k) ?_
      show Go p e below _ (T81.setTop (mkF m 97 #[.val (.long q1), .second, .val (.int p2), .val (.int p3), .val (.int p4), .val (.int p5), .val (.int p6), .val (.ref b7), .val (.int (2 : Int32)), .val (.int v77), .val (.int v80), .unset, .unset, .unset, .unset] [(.int (p5 &&& (127 : Int32))), (.ref b7)]))
      obtain ⟨cq82, kq82, q82a, q82b, q82c⟩ := isOf hZ rfl Q81_2
      obtain ⟨_, _, ⟨T82, L82, k82, n82⟩, -, X82, ⟨Lc82, hQ82, l82, y82, z82⟩, st82⟩ := X81.virtualBack hx (y := (⟨"com/example/tinwire/tinwire/codec/ByteOutput", "writeByte", "(I)V"⟩ : MethodName)) (z := (⟨"com/example/tinwire/tinwire/codec/ByteOutput", "writeByte", "(I)V"⟩ : MethodName)) hown (mvT hZ (hw _ (List.mem_of_getElem? (i := 49) rfl))) (mvT hZ (hw _ (List.mem_of_getElem? (i := 50) rfl))) (notFace_of_selects (args := #[]) (mvT hZ (hw _ (List.mem_of_getElem? (i := 52) rfl)))) (mvT hZ (hw _ (List.mem_of_getElem? (i := 52) rfl))) (mvT hZ (hw _ (List.mem_of_getElem? (i := 51) rfl))) (by decide) (backOf (W := 0) (rm11 l Z a0 hw [] b7 (p5 &&& (127 : Int32)) ((((2 : Int32) + (f5 q1)) + (1 : Int32)) + (1 : Int32)) b8_0 (upA (G1 (upA (upA (fun _ => (0 : Int32)) (0 : Int32).toNatClampNeg (nar .byte (p2.toInt8.toInt32))) (1 : Int32).toNatClampNeg (nar .byte ((p2 >>> ((8 : Int32) &&& 31)).toInt8.toInt32))) (2 : Int32) q1 p3) (((2 : Int32) + (f5 q1)) + (1 : Int32)).toNatClampNeg (nar .byte (p4.toInt8.toInt32))) T81.heap n0 Z81 Q81_0 Q81_1 Q81_3 ((Sm.room (Sm.inc (Sm.inc (szK (2 : Int32) (by decide) q1).1 (by decide)) (by decide)) (by decide)) : ¬ ((256 : Int64) < ((((((2 : Int32) + (f5 q1)) + (1 : Int32)) + (1 : Int32)).toInt64) + (1 : Int64)))) Q81_2 g_b7 (Ne.symm ne_b7_b8_0) g_b8_0 ((Sm.nn (Sm.inc (Sm.inc (szK (2 : Int32) (by decide) q1).1 (by decide)) (by decide))) : ¬ ((((2 : Int32) + (f5 q1)) + (1 : Int32)) + (1 : Int32)) < 0) ((Sm.lt (Sm.inc (Sm.inc (szK (2 : Int32) (by decide) q1).1 (by decide)) (by decide)) (by decide)) : ((((2 : Int32) + (f5 q1)) + (1 : Int32)) + (1 : Int32)).toNatClampNeg < 256) ne_b7_b8_0) hZ (hw _ (List.mem_of_getElem? (i := 53) rfl)) (hw _ (List.mem_of_getElem? (i := 2) rfl)) (by decide) (by decide)) q82a q82c (g := (mkF m 97 #[.val (.long q1), .second, .val (.int p2), .val (.int p3), .val (.int p4), .val (.int p5), .val (.int p6), .val (.ref b7), .val (.int (2 : Int32)), .val (.int v77), .val (.int v80), .unset, .unset, .unset, .unset] [(.int (p5 &&& (127 : Int32))), (.ref b7)])) rfl (by rw [hml]; rfl) (Steps.refl _) (argsL := [(.int (p5 &&& (127 : Int32)))]) (rest := []) (lenOf pd_7 rfl) rfl (by show 2 * 0 + _ ≤ _; exact Nat.le_of_eq rfl) (hb hby at_97) (fun _ _ => ⟨rfl, rfl, (by decide : 2 + 0 ≤ _), (by decide : 258 + 0 ≤ _)⟩)
      dsimp only [Pt.U, Pt.locs, Pt.cells, Pt.slots] at X82 l82 y82 z82 st82 hQ82
      subst l82 y82 z82
      obtain ⟨rfl, N82q, K82, Q82_0, Q82_1, Q82_2, Q82_3⟩ := hQ82
      have N82 := Fr.app N81 N82q
      have E_b7_82 := Q81_2.keep K82
      have Z82 := Nat.le_trans Z81 K82.1
      have KK82 : Keep h0 T82.heap [] := KK81.trans K82 (allS (Or.inr sz_b7) (allS (Or.inr sz_b8_0) all0))
      refine Go.trans st82 ?_
      show Go p e below _ (T82.setTop (mkF m 100 #[.val (.long q1), .second, .val (.int p2), .val (.int p3), .val (.int p4), .val (.int p5), .val (.int p6), .val (.ref b7), .val (.int (2 : Int32)), .val (.int v77), .val (.int v80), .unset, .unset, .unset, .unset] []))
      have Q82_3n : Ary Z T82.heap b8_0 .byte 256 (fun i => .int ((G3 (G1 (upA (upA (fun _ => (0 : Int32)) (0 : Int32).toNatClampNeg (nar .byte (p2.toInt8.toInt32))) (1 : Int32).toNatClampNeg (nar .byte ((p2 >>> ((8 : Int32) &&& 31)).toInt8.toInt32))) (2 : Int32) q1 p3) (((2 : Int32) + (f5 q1)) + (1 : Int32)) p4 p5) i)) := Q82_3
      show Go p e below _ (T82.setTop (mkF m 100 #[.val (.long q1), .second, .val (.int p2), .val (.int p3), .val (.int p4), .val (.int p5), .val (.int p6), .val (.ref b7), .val (.int (2 : Int32)), .val (.int v77), .val (.int v80), .unset, .unset, .unset, .unset] []))
      refine Go.step (fun t k => XS.iload X82.here hx rfl (hb hby at_100) rfl k) ?_
      show Go p e below _ (T82.setTop (mkF m 102 #[.val (.long q1), .second, .val (.int p2), .val (.int p3), .val (.int p4), .val (.int p5), .val (.int p6), .val (.ref b7), .val (.int (2 : Int32)), .val (.int v77), .val (.int v80), .unset, .unset, .unset, .unset] [(.int p4)]))
      refine Go.step (fun t k => XS.sipush X82.here hx rfl (hb hby at_102)  k) ?_
      show Go p e below _ (T82.setTop (mkF m 105 #[.val (.long q1), .second, .val (.int p2), .val (.int p3), .val (.int p4), .val (.int p5), .val (.int p6), .val (.ref b7), .val (.int (2 : Int32)), .val (.int v77), .val (.int v80), .unset, .unset, .unset, .unset] [(.int (255 : Int32)), (.int p4)]))
      refine Go.step (fun t k => XS.iand X82.here hx rfl (hb hby at_105) rfl k) ?_
      show Go p e below _ (T82.setTop (mkF m 106 #[.val (.long q1), .second, .val (.int p2), .val (.int p3), .val (.int p4), .val (.int p5), .val (.int p6), .val (.ref b7), .val (.int (2 : Int32)), .val (.int v77), .val (.int v80), .unset, .unset, .unset, .unset] [(.int (p4 &&& (255 : Int32)))]))
      obtain ⟨v83, hv83⟩ : ∃ z : Int32, z = (p4 &&& (255 : Int32)) := ⟨_, rfl⟩
      rw [← hv83]
      show Go p e below _ (T82.setTop (mkF m 106 #[.val (.long q1), .second, .val (.int p2), .val (.int p3), .val (.int p4), .val (.int p5), .val (.int p6), .val (.ref b7), .val (.int (2 : Int32)), .val (.int v77), .val (.int v80), .unset, .unset, .unset, .unset] [(.int v83)]))
      refine Go.step (fun t k => XS.istore X82.here hx rfl (hb hby at_106) rfl (l' := #[.val (.long q1), .second, .val (.int p2), .val (.int p3), .val (.int p4), .val (.int p5), .val (.int p6), .val (.ref b7), .val (.int (2 : Int32)), .val (.int v77), .val (.int v80), .val (.int v83), .unset, .unset, .unset]) rfl k) ?_
      show Go p e below _ (T82.setTop (mkF m 108 #[.val (.long q1), .second, .val (.int p2), .val (.int p3), .val (.int p4), .val (.int p5), .val (.int p6), .val (.ref b7), .val (.int (2 : Int32)), .val (.int v77), .val (.int v80), .val (.int v83), .unset, .unset, .unset] []))
      refine Go.step (fun t k => XS.iload X82.here hx rfl (hb hby at_108) rfl k) ?_
      show Go p e below _ (T82.setTop (mkF m 110 #[.val (.long q1), .second, .val (.int p2), .val (.int p3), .val (.int p4), .val (.int p5), .val (.int p6), .val (.ref b7), .val (.int (2 : Int32)), .val (.int v77), .val (.int v80), .val (.int v83), .unset, .unset, .unset] [(.int p5)]))
      refine Go.step (fun t k => XS.bipush X82.here hx rfl (hb hby at_110)  k) ?_
      show Go p e below _ (T82.setTop (mkF m 112 #[.val (.long q1), .second, .val (.int p2), .val (.int p3), .val (.int p4), .val (.int p5), .val (.int p6), .val (.ref b7), .val (.int (2 : Int32)), .val (.int v77), .val (.int v80), .val (.int v83), .unset, .unset, .unset] [(.int (127 : Int32)), (.int p5)]))
      refine Go.step (fun t k => XS.iand X82.here hx rfl (hb hby at_112) rfl k) ?_
      show Go p e below _ (T82.setTop (mkF m 113 #[.val (.long q1), .second, .val (.int p2), .val (.int p3), .val (.int p4), .val (.int p5), .val (.int p6), .val (.ref b7), .val (.int (2 : Int32)), .val (.int v77), .val (.int v80), .val (.int v83), .unset, .unset, .unset] [(.int (p5 &&& (127 : Int32)))]))
      obtain ⟨v84, hv84⟩ : ∃ z : Int32, z = (p5 &&& (127 : Int32)) := ⟨_, rfl⟩
      rw [← hv84]
      show Go p e below _ (T82.setTop (mkF m 113 #[.val (.long q1), .second, .val (.int p2), .val (.int p3), .val (.int p4), .val (.int p5), .val (.int p6), .val (.ref b7), .val (.int (2 : Int32)), .val (.int v77), .val (.int v80), .val (.int v83), .unset, .unset, .unset] [(.int v84)]))
      refine Go.step (fun t k => XS.istore X82.here hx rfl (hb hby at_113) rfl (l' := #[.val (.long q1), .second, .val (.int p2), .val (.int p3), .val (.int p4), .val (.int p5), .val (.int p6), .val (.ref b7), .val (.int (2 : Int32)), .val (.int v77), .val (.int v80), .val (.int v83), .val (.int v84), .unset, .unset]) rfl k) ?_
      show Go p e below _ (T82.setTop (mkF m 115 #[.val (.long q1), .second, .val (.int p2), .val (.int p3), .val (.int p4), .val (.int p5), .val (.int p6), .val (.ref b7), .val (.int (2 : Int32)), .val (.int v77), .val (.int v80), .val (.int v83), .val (.int v84), .unset, .unset] []))
      refine Go.step (fun t k => XS.iload X82.here hx rfl (hb hby at_115) rfl k) ?_
      show Go p e below _ (T82.setTop (mkF m 117 #[.val (.long q1), .second, .val (.int p2), .val (.int p3), .val (.int p4), .val (.int p5), .val (.int p6), .val (.ref b7), .val (.int (2 : Int32)), .val (.int v77), .val (.int v80), .val (.int v83), .val (.int v84), .unset, .unset] [(.int v83)]))
      refine Go.step (fun t k => XS.sipush X82.here hx rfl (hb hby at_117)  k) ?_
      show Go p e below _ (T82.setTop (mkF m 120 #[.val (.long q1), .second, .val (.int p2), .val (.int p3), .val (.int p4), .val (.int p5), .val (.int p6), .val (.ref b7), .val (.int (2 : Int32)), .val (.int v77), .val (.int v80), .val (.int v83), .val (.int v84), .unset, .unset] [(.int (128 : Int32)), (.int v83)]))
      obtain ⟨v86, hv86⟩ : ∃ z : Int64, z = (if v83 < (128 : Int32) then (v83.toInt64) else (((v83 &&& (127 : Int32)).toInt64) ||| ((v84.toInt64) <<< ((7 : Int32) &&& 0x3f).toInt64))) := ⟨_, rfl⟩
      have J120 : Go p e below (AtF p l e room_1 s m #[(.long q1), (.int p2), (.int p3), (.int p4), (.int p5), (.int p6)] below meth c n0 2 258 T82.heap (mkF m 142 #[.val (.long q1), .second, .val (.int p2), .val (.int p3), .val (.int p4), .val (.int p5), .val (.int p6), .val (.ref b7), .val (.int (2 : Int32)), .val (.int v77), .val (.int v80), .val (.int v83), .val (.int v84), .unset, .unset] [(.long v86)])) (T82.setTop (mkF m 120 #[.val (.long q1), .second, .val (.int p2), .val (.int p3), .val (.int p4), .val (.int p5), .val (.int p6), .val (.ref b7), .val (.int (2 : Int32)), .val (.int v77), .val (.int v80), .val (.int v83), .val (.int v84), .unset, .unset] [(.int (128 : Int32)), (.int v83)])) := by
        by_cases hc85 : v83 < (128 : Int32)
        · refine Go.step (fun t k => XS.icmpNo X82.here hx rfl (hb hby at_120) rfl (tlt hc85).2.1 k) ?_
          show Go p e below _ (T82.setTop (mkF m 123 #[.val (.long q1), .second, .val (.int p2), .val (.int p3), .val (.int p4), .val (.int p5), .val (.int p6), .val (.ref b7), .val (.int (2 : Int32)), .val (.int v77), .val (.int v80), .val (.int v83), .val (.int v84), .unset, .unset] []))
          refine Go.step (fun t k => XS.iload X82.here hx rfl (hb hby at_123) rfl k) ?_
          show Go p e below _ (T82.setTop (mkF m 125 #[.val (.long q1), .second, .val (.int p2), .val (.int p3), .val (.int p4), .val (.int p5), .val (.int p6), .val (.ref b7), .val (.int (2 : Int32)), .val (.int v77), .val (.int v80), .val (.int v83), .val (.int v84), .unset, .unset] [(.int v83)]))
          refine Go.step (fun t k => XS.i2l X82.here hx rfl (hb hby at_125) rfl k) ?_
          show Go p e below _ (T82.setTop (mkF m 126 #[.val (.long q1), .second, .val (.int p2), .val (.int p3), .val (.int p4), .val (.int p5), .val (.int p6), .val (.ref b7), .val (.int (2 : Int32)), .val (.int v77), .val (.int v80), .val (.int v83), .val (.int v84), .unset, .unset] [(.long (v83.toInt64))]))
          refine Go.step (fun t k => XS.goto X82.here hx rfl (pc0 := 126) (pc' := 142) rfl (hb hby at_126) (by decide) (by decide) k) ?_
          show Go p e below _ (T82.setTop (mkF m 142 #[.val (.long q1), .second, .val (.int p2), .val (.int p3), .val (.int p4), .val (.int p5), .val (.int p6), .val (.ref b7), .val (.int (2 : Int32)), .val (.int v77), .val (.int v80), .val (.int v83), .val (.int v84), .unset, .unset] [(.long (v83.toInt64))]))
          exact Go.here ⟨_, _, by simp only [hv86, if_pos hc85], X82, N82, rfl⟩
        · refine Go.step (fun t k => XS.icmpYes X82.here hx rfl (pc0 := 120) (pc' := 129) rfl (hb hby at_120) rfl (flt hc85).2.1 (by decide) (by decide) k) ?_
          show Go p e below _ (T82.setTop (mkF m 129 #[.val (.long q1), .second, .val (.int p2), .val (.int p3), .val (.int p4), .val (.int p5), .val (.int p6), .val (.ref b7), .val (.int (2 : Int32)), .val (.int v77), .val (.int v80), .val (.int v83), .val (.int v84), .unset, .unset] []))
          refine Go.step (fun t k => XS.iload X82.here hx rfl (hb hby at_129) rfl k) ?_
          show Go p e below _ (T82.setTop (mkF m 131 #[.val (.long q1), .second, .val (.int p2), .val (.int p3), .val (.int p4), .val (.int p5), .val (.int p6), .val (.ref b7), .val (.int (2 : Int32)), .val (.int v77), .val (.int v80), .val (.int v83), .val (.int v84), .unset, .unset] [(.int v83)]))
          refine Go.step (fun t k => XS.bipush X82.here hx rfl (hb hby at_131)  k) ?_
          show Go p e below _ (T82.setTop (mkF m 133 #[.val (.long q1), .second, .val (.int p2), .val (.int p3), .val (.int p4), .val (.int p5), .val (.int p6), .val (.ref b7), .val (.int (2 : Int32)), .val (.int v77), .val (.int v80), .val (.int v83), .val (.int v84), .unset, .unset] [(.int (127 : Int32)), (.int v83)]))
          refine Go.step (fun t k => XS.iand X82.here hx rfl (hb hby at_133) rfl k) ?_
          show Go p e below _ (T82.setTop (mkF m 134 #[.val (.long q1), .second, .val (.int p2), .val (.int p3), .val (.int p4), .val (.int p5), .val (.int p6), .val (.ref b7), .val (.int (2 : Int32)), .val (.int v77), .val (.int v80), .val (.int v83), .val (.int v84), .unset, .unset] [(.int (v83 &&& (127 : Int32)))]))
          refine Go.step (fun t k => XS.i2l X82.here hx rfl (hb hby at_134) rfl k) ?_
          show Go p e below _ (T82.setTop (mkF m 135 #[.val (.long q1), .second, .val (.int p2), .val (.int p3), .val (.int p4), .val (.int p5), .val (.int p6), .val (.ref b7), .val (.int (2 : Int32)), .val (.int v77), .val (.int v80), .val (.int v83), .val (.int v84), .unset, .unset] [(.long ((v83 &&& (127 : Int32)).toInt64))]))
          refine Go.step (fun t k => XS.iload X82.here hx rfl (hb hby at_135) rfl k) ?_
          show Go p e below _ (T82.setTop (mkF m 137 #[.val (.long q1), .second, .val (.int p2), .val (.int p3), .val (.int p4), .val (.int p5), .val (.int p6), .val (.ref b7), .val (.int (2 : Int32)), .val (.int v77), .val (.int v80), .val (.int v83), .val (.int v84), .unset, .unset] [(.int v84), (.long ((v83 &&& (127 : Int32)).toInt64))]))
          refine Go.step (fun t k => XS.i2l X82.here hx rfl (hb hby at_137) rfl k) ?_
          show Go p e below _ (T82.setTop (mkF m 138 #[.val (.long q1), .second, .val (.int p2), .val (.int p3), .val (.int p4), .val (.int p5), .val (.int p6), .val (.ref b7), .val (.int (2 : Int32)), .val (.int v77), .val (.int v80), .val (.int v83), .val (.int v84), .unset, .unset] [(.long (v84.toInt64)), (.long ((v83 &&& (127 : Int32)).toInt64))]))
          refine Go.step (fun t k => XS.bipush X82.here hx rfl (hb hby at_138)  k) ?_
          show Go p e below _ (T82.setTop (mkF m 140 #[.val (.long q1), .second, .val (.int p2), .val (.int p3), .val (.int p4), .val (.int p5), .val (.int p6), .val (.ref b7), .val (.int (2 : Int32)), .val (.int v77), .val (.int v80), .val (.int v83), .val (.int v84), .unset, .unset] [(.int (7 : Int32)), (.long (v84.toInt64)), (.long ((v83 &&& (127 : Int32)).toInt64))]))
          refine Go.step (fun t k => XS.lshl X82.here hx rfl (hb hby at_140) rfl k) ?_
          show Go p e below _ (T82.setTop (mkF m 141 #[.val (.long q1), .second, .val (.int p2), .val (.int p3), .val (.int p4), .val (.int p5), .val (.int p6), .val (.ref b7), .val (.int (2 : Int32)), .val (.int v77), .val (.int v80), .val (.int v83), .val (.int v84), .unset, .unset] [(.long ((v84.toInt64) <<< ((7 : Int32) &&& 0x3f).toInt64)), (.long ((v83 &&& (127 : Int32)).toInt64))]))
          refine Go.step (fun t k => XS.lor X82.here hx rfl (hb hby at_141) rfl k) ?_
          show Go p e below _ (T82.setTop (mkF m 142 #[.val (.long q1), .second, .val (.int p2), .val (.int p3), .val (.int p4), .val (.int p5), .val (.int p6), .val (.ref b7), .val (.int (2 : Int32)), .val (.int v77), .val (.int v80), .val (.int v83), .val (.int v84), .unset, .unset] [(.long (((v83 &&& (127 : Int32)).toInt64) ||| ((v84.toInt64) <<< ((7 : Int32) &&& 0x3f).toInt64)))]))
          exact Go.here ⟨_, _, by simp only [hv86, if_neg hc85], X82, N82, rfl⟩
      obtain ⟨_, st87, T87, Lj87, rfl, X87, N87, e87⟩ := J120
      refine Go.trans st87 ?_
      show Go p e below _ (T87.setTop (mkF m 142 #[.val (.long q1), .second, .val (.int p2), .val (.int p3), .val (.int p4), .val (.int p5), .val (.int p6), .val (.ref b7), .val (.int (2 : Int32)), .val (.int v77), .val (.int v80), .val (.int v83), .val (.int v84), .unset, .unset] [(.long v86)]))
      refine Go.step (fun t k => XS.lstore X87.here hx rfl (hb hby at_142) rfl (l' := #[.val (.long q1), .second, .val (.int p2), .val (.int p3), .val (.int p4), .val (.int p5), .val (.int p6), .val (.ref b7), .val (.int (2 : Int32)), .val (.int v77), .val (.int v80), .val (.int v83), .val (.int v84), .val (.long v86), .second]) rfl k) ?_
      show Go p e below _ (T87.setTop (mkF m 144 #[.val (.long q1), .second, .val (.int p2), .val (.int p3), .val (.int p4), .val (.int p5), .val (.int p6), .val (.ref b7), .val (.int (2 : Int32)), .val (.int v77), .val (.int v80), .val (.int v83), .val (.int v84), .val (.long v86), .second] []))
      refine Go.step (fun t k => XS.iload X87.here hx rfl (hb hby at_144) rfl k) ?_
      show Go p e below _ (T87.setTop (mkF m 146 #[.val (.long q1), .second, .val (.int p2), .val (.int p3), .val (.int p4), .val (.int p5), .val (.int p6), .val (.ref b7), .val (.int (2 : Int32)), .val (.int v77), .val (.int v80), .val (.int v83), .val (.int v84), .val (.long v86), .second] [(.int v77)]))
      by_cases hc88 : v77 = (0 : Int32)
      · refine Go.step (fun t k => XS.ifYes X87.here hx rfl (pc0 := 146) (pc' := 166) rfl (hb hby at_146) rfl ((if0 _ _).trans (teq hc88).1) (by decide) (by decide) k) ?_
        show Go p e below _ (T87.setTop (mkF m 166 #[.val (.long q1), .second, .val (.int p2), .val (.int p3), .val (.int p4), .val (.int p5), .val (.int p6), .val (.ref b7), .val (.int (2 : Int32)), .val (.int v77), .val (.int v80), .val (.int v83), .val (.int v84), .val (.long v86), .second] []))
        refine Go.step (fun t k => XS.iconst X87.here hx rfl (hb hby at_166)  k) ?_
        show Go p e below _ (T87.setTop (mkF m 167 #[.val (.long q1), .second, .val (.int p2), .val (.int p3), .val (.int p4), .val (.int p5), .val (.int p6), .val (.ref b7), .val (.int (2 : Int32)), .val (.int v77), .val (.int v80), .val (.int v83), .val (.int v84), .val (.long v86), .second] [(.int (0 : Int32))]))
        subst hv86
        subst hv84
        subst hv83
        subst hv80
        subst hv77
        exact retGN X87 hx Bd.notSynchronized Bd.returns (t := .boolean) (by simp) (z' := (0 : Int32)) rfl (hb hby at_167) ⟨by first | (simp only [f0, if_neg hc9, if_neg hc51, if_pos hc88]; done) | rfl | (simp [f0, if_neg hc9, if_neg hc51, if_pos hc88]; done), N87⟩ (by decide) (by decide)
      · refine Go.step (fun t k => XS.ifNo X87.here hx rfl (hb hby at_146) rfl ((if0 _ _).trans (feq hc88).1) k) ?_
        show Go p e below _ (T87.setTop (mkF m 149 #[.val (.long q1), .second, .val (.int p2), .val (.int p3), .val (.int p4), .val (.int p5), .val (.int p6), .val (.ref b7), .val (.int (2 : Int32)), .val (.int v77), .val (.int v80), .val (.int v83), .val (.int v84), .val (.long v86), .second] []))
        refine Go.step (fun t k => XS.aload X87.here hx rfl (hb hby at_149) rfl rfl k) ?_
        show Go p e below _ (T87.setTop (mkF m 151 #[.val (.long q1), .second, .val (.int p2), .val (.int p3), .val (.int p4), .val (.int p5), .val (.int p6), .val (.ref b7), .val (.int (2 : Int32)), .val (.int v77), .val (.int v80), .val (.int v83), .val (.int v84), .val (.long v86), .second] [(.ref b7)]))
        refine Go.step (fun t k => XS.iload X87.here hx rfl (hb hby at_151) rfl k) ?_
        show Go p e below _ (T87.setTop (mkF m 153 #[.val (.long q1), .second, .val (.int p2), .val (.int p3), .val (.int p4), .val (.int p5), .val (.int p6), .val (.ref b7), .val (.int (2 : Int32)), .val (.int v77), .val (.int v80), .val (.int v83), .val (.int v84), .val (.long v86), .second] [(.int v80), (.ref b7)]))
        obtain ⟨cq89, kq89, q89a, q89b, q89c⟩ := isOf hZ e87 Q82_2
        obtain ⟨_, _, ⟨T89, L89, k89, n89⟩, -, X89, ⟨Lc89, hQ89, l89, y89, z89⟩, st89⟩ := X87.virtualBack hx (y := (⟨"com/example/tinwire/tinwire/codec/ByteOutput", "varintAt", "(I)J"⟩ : MethodName)) (z := (⟨"com/example/tinwire/tinwire/codec/ByteOutput", "varintAt", "(I)J"⟩ : MethodName)) hown (mvT hZ (hw _ (List.mem_of_getElem? (i := 54) rfl))) (mvT hZ (hw _ (List.mem_of_getElem? (i := 55) rfl))) (notFace_of_selects (args := #[]) (mvT hZ (hw _ (List.mem_of_getElem? (i := 57) rfl)))) (mvT hZ (hw _ (List.mem_of_getElem? (i := 57) rfl))) (mvT hZ (hw _ (List.mem_of_getElem? (i := 56) rfl))) (by decide) (backOf (W := 0) (rm12 l Z a0 hw [] b7 v80 b8_0 (G3 (G1 (upA (upA (fun _ => (0 : Int32)) (0 : Int32).toNatClampNeg (nar .byte (p2.toInt8.toInt32))) (1 : Int32).toNatClampNeg (nar .byte ((p2 >>> ((8 : Int32) &&& 31)).toInt8.toInt32))) (2 : Int32) q1 p3) (((2 : Int32) + (f5 q1)) + (1 : Int32)) p4 p5) (jj p4) T82.heap n0 Z82 ((by subst hv80; exact (va2 (G1 (upA (upA (fun _ => (0 : Int32)) (0 : Int32).toNatClampNeg (nar .byte (p2.toInt8.toInt32))) (1 : Int32).toNatClampNeg (nar .byte ((p2 >>> ((8 : Int32) &&& 31)).toInt8.toInt32))) (2 : Int32) q1 p3) (((2 : Int32) + (f5 q1)) + (1 : Int32)) p4 p5 (own_sm (Sm.inc (szK (2 : Int32) (by decide) q1).1 (by decide)))).1) : ∀ i, i < (jj p4) → (G3 (G1 (upA (upA (fun _ => (0 : Int32)) (0 : Int32).toNatClampNeg (nar .byte (p2.toInt8.toInt32))) (1 : Int32).toNatClampNeg (nar .byte ((p2 >>> ((8 : Int32) &&& 31)).toInt8.toInt32))) (2 : Int32) q1 p3) (((2 : Int32) + (f5 q1)) + (1 : Int32)) p4 p5) (v80.toNatClampNeg + i) < 0) ((by subst hv80; exact (va2 (G1 (upA (upA (fun _ => (0 : Int32)) (0 : Int32).toNatClampNeg (nar .byte (p2.toInt8.toInt32))) (1 : Int32).toNatClampNeg (nar .byte ((p2 >>> ((8 : Int32) &&& 31)).toInt8.toInt32))) (2 : Int32) q1 p3) (((2 : Int32) + (f5 q1)) + (1 : Int32)) p4 p5 (own_sm (Sm.inc (szK (2 : Int32) (by decide) q1).1 (by decide)))).2.1) : ¬ (G3 (G1 (upA (upA (fun _ => (0 : Int32)) (0 : Int32).toNatClampNeg (nar .byte (p2.toInt8.toInt32))) (1 : Int32).toNatClampNeg (nar .byte ((p2 >>> ((8 : Int32) &&& 31)).toInt8.toInt32))) (2 : Int32) q1 p3) (((2 : Int32) + (f5 q1)) + (1 : Int32)) p4 p5) (v80.toNatClampNeg + (jj p4)) < 0) ((by subst hv80; exact (va2 (G1 (upA (upA (fun _ => (0 : Int32)) (0 : Int32).toNatClampNeg (nar .byte (p2.toInt8.toInt32))) (1 : Int32).toNatClampNeg (nar .byte ((p2 >>> ((8 : Int32) &&& 31)).toInt8.toInt32))) (2 : Int32) q1 p3) (((2 : Int32) + (f5 q1)) + (1 : Int32)) p4 p5 (own_sm (Sm.inc (szK (2 : Int32) (by decide) q1).1 (by decide)))).2.2.1) : 0 ≤ v80.toInt ∧ v80.toInt + (jj p4) < 256) Q82_1 Q82_3n) hZ (hw _ (List.mem_of_getElem? (i := 58) rfl)) (hw _ (List.mem_of_getElem? (i := 2) rfl)) (by decide) (by decide)) q89a q89c (g := (mkF m 153 #[.val (.long q1), .second, .val (.int p2), .val (.int p3), .val (.int p4), .val (.int p5), .val (.int p6), .val (.ref b7), .val (.int (2 : Int32)), .val (.int v77), .val (.int v80), .val (.int v83), .val (.int v84), .val (.long v86), .second] [(.int v80), (.ref b7)])) rfl (by rw [hml]; rfl) (Steps.refl _) (argsL := [(.int v80)]) (rest := []) (lenOf pd_8 rfl) rfl (by show 2 * 0 + _ ≤ _; exact Nat.le_of_eq rfl) (hb hby at_153) (fun _ _ => ⟨rfl, e87, (by decide : 2 + 0 ≤ _), (by decide : 258 + 0 ≤ _)⟩)
        dsimp only [Pt.U, Pt.locs, Pt.cells, Pt.slots] at X89 l89 y89 z89 st89 hQ89
        subst l89 y89 z89
        obtain ⟨rfl, N89q, e89⟩ := hQ89
        have N89 := Fr.app N87 N89q
        refine Go.trans st89 ?_
        show Go p e below _ (T89.setTop (mkF m 156 #[.val (.long q1), .second, .val (.int p2), .val (.int p3), .val (.int p4), .val (.int p5), .val (.int p6), .val (.ref b7), .val (.int (2 : Int32)), .val (.int v77), .val (.int v80), .val (.int v83), .val (.int v84), .val (.long v86), .second] [(.long (vaR (jj p4) (G3 (G1 (upA (upA (fun _ => (0 : Int32)) (0 : Int32).toNatClampNeg (nar .byte (p2.toInt8.toInt32))) (1 : Int32).toNatClampNeg (nar .byte ((p2 >>> ((8 : Int32) &&& 31)).toInt8.toInt32))) (2 : Int32) q1 p3) (((2 : Int32) + (f5 q1)) + (1 : Int32)) p4 p5) v80 (0 : Int32) (0 : Int64)))]))
        refine Go.step (fun t k => XS.lload X89.here hx rfl (hb hby at_156) rfl k) ?_
        show Go p e below _ (T89.setTop (mkF m 158 #[.val (.long q1), .second, .val (.int p2), .val (.int p3), .val (.int p4), .val (.int p5), .val (.int p6), .val (.ref b7), .val (.int (2 : Int32)), .val (.int v77), .val (.int v80), .val (.int v83), .val (.int v84), .val (.long v86), .second] [(.long v86), (.long (vaR (jj p4) (G3 (G1 (upA (upA (fun _ => (0 : Int32)) (0 : Int32).toNatClampNeg (nar .byte (p2.toInt8.toInt32))) (1 : Int32).toNatClampNeg (nar .byte ((p2 >>> ((8 : Int32) &&& 31)).toInt8.toInt32))) (2 : Int32) q1 p3) (((2 : Int32) + (f5 q1)) + (1 : Int32)) p4 p5) v80 (0 : Int32) (0 : Int64)))]))
        refine Go.step (fun t k => XS.lcmp X89.here hx rfl (hb hby at_158) rfl k) ?_
        show Go p e below _ (T89.setTop (mkF m 159 #[.val (.long q1), .second, .val (.int p2), .val (.int p3), .val (.int p4), .val (.int p5), .val (.int p6), .val (.ref b7), .val (.int (2 : Int32)), .val (.int v77), .val (.int v80), .val (.int v83), .val (.int v84), .val (.long v86), .second] [(.int (lcmpW (vaR (jj p4) (G3 (G1 (upA (upA (fun _ => (0 : Int32)) (0 : Int32).toNatClampNeg (nar .byte (p2.toInt8.toInt32))) (1 : Int32).toNatClampNeg (nar .byte ((p2 >>> ((8 : Int32) &&& 31)).toInt8.toInt32))) (2 : Int32) q1 p3) (((2 : Int32) + (f5 q1)) + (1 : Int32)) p4 p5) v80 (0 : Int32) (0 : Int64)) v86))]))
        by_cases hc90 : (vaR (jj p4) (G3 (G1 (upA (upA (fun _ => (0 : Int32)) (0 : Int32).toNatClampNeg (nar .byte (p2.toInt8.toInt32))) (1 : Int32).toNatClampNeg (nar .byte ((p2 >>> ((8 : Int32) &&& 31)).toInt8.toInt32))) (2 : Int32) q1 p3) (((2 : Int32) + (f5 q1)) + (1 : Int32)) p4 p5) v80 (0 : Int32) (0 : Int64)) = v86
        · refine Go.step (fun t k => XS.ifNo X89.here hx rfl (hb hby at_159) rfl ((if0 _ _).trans (teq ((lw_eq _ _).mpr hc90)).2) k) ?_
          show Go p e below _ (T89.setTop (mkF m 162 #[.val (.long q1), .second, .val (.int p2), .val (.int p3), .val (.int p4), .val (.int p5), .val (.int p6), .val (.ref b7), .val (.int (2 : Int32)), .val (.int v77), .val (.int v80), .val (.int v83), .val (.int v84), .val (.long v86), .second] []))
          refine Go.step (fun t k => XS.iconst X89.here hx rfl (hb hby at_162)  k) ?_
          show Go p e below _ (T89.setTop (mkF m 163 #[.val (.long q1), .second, .val (.int p2), .val (.int p3), .val (.int p4), .val (.int p5), .val (.int p6), .val (.ref b7), .val (.int (2 : Int32)), .val (.int v77), .val (.int v80), .val (.int v83), .val (.int v84), .val (.long v86), .second] [(.int (1 : Int32))]))
          refine Go.step (fun t k => XS.goto X89.here hx rfl (pc0 := 163) (pc' := 167) rfl (hb hby at_163) (by decide) (by decide) k) ?_
          show Go p e below _ (T89.setTop (mkF m 167 #[.val (.long q1), .second, .val (.int p2), .val (.int p3), .val (.int p4), .val (.int p5), .val (.int p6), .val (.ref b7), .val (.int (2 : Int32)), .val (.int v77), .val (.int v80), .val (.int v83), .val (.int v84), .val (.long v86), .second] [(.int (1 : Int32))]))
          subst hv86
          subst hv84
          subst hv83
          subst hv80
          subst hv77
          exact retGN X89 hx Bd.notSynchronized Bd.returns (t := .boolean) (by simp) (z' := (1 : Int32)) rfl (hb hby at_167) ⟨by first | (simp only [f0, if_neg hc9, if_neg hc51, if_neg hc88, if_pos hc90]; done) | rfl | (simp [f0, if_neg hc9, if_neg hc51, if_neg hc88, if_pos hc90]; done), N89⟩ (by decide) (by decide)
        · refine Go.step (fun t k => XS.ifYes X89.here hx rfl (pc0 := 159) (pc' := 166) rfl (hb hby at_159) rfl ((if0 _ _).trans (feq (fun q => hc90 ((lw_eq _ _).mp q))).2) (by decide) (by decide) k) ?_
          show Go p e below _ (T89.setTop (mkF m 166 #[.val (.long q1), .second, .val (.int p2), .val (.int p3), .val (.int p4), .val (.int p5), .val (.int p6), .val (.ref b7), .val (.int (2 : Int32)), .val (.int v77), .val (.int v80), .val (.int v83), .val (.int v84), .val (.long v86), .second] []))
          refine Go.step (fun t k => XS.iconst X89.here hx rfl (hb hby at_166)  k) ?_
          show Go p e below _ (T89.setTop (mkF m 167 #[.val (.long q1), .second, .val (.int p2), .val (.int p3), .val (.int p4), .val (.int p5), .val (.int p6), .val (.ref b7), .val (.int (2 : Int32)), .val (.int v77), .val (.int v80), .val (.int v83), .val (.int v84), .val (.long v86), .second] [(.int (0 : Int32))]))
          subst hv86
          subst hv84
          subst hv83
          subst hv80
          subst hv77
          exact retGN X89 hx Bd.notSynchronized Bd.returns (t := .boolean) (by simp) (z' := (0 : Int32)) rfl (hb hby at_167) ⟨by first | (simp only [f0, if_neg hc9, if_neg hc51, if_neg hc88, if_neg hc90]; done) | rfl | (simp [f0, if_neg hc9, if_neg hc51, if_neg hc88, if_neg hc90]; done), N89⟩ (by decide) (by decide)

theorem own_key (g : Nat → Int32) (k : Int32) (hk : 0 ≤ k.toInt ∧ k.toInt ≤ 2) (v : Int64) (t x y : Int32) :
    (if (if (vaR ((f5 v).toInt.toNat - 1 : Nat) (G1 g k v t) k (0 : Int32) (0 : Int64)) = v then (1 : Int32) else (0 : Int32)) = (0 : Int32) then (0 : Int32) else (if (vaR (jj x) (G3 (G1 g k v t) ((k + (f5 v)) + (1 : Int32)) x y) ((k + (f5 v)) + (1 : Int32)) (0 : Int32) (0 : Int64)) = exp2 x y then (1 : Int32) else (0 : Int32))) = 1 := by
  rw [(va1 g k hk v t).2.2.2, if_pos rfl, (va2 (G1 g k v t) ((k + (f5 v)) + (1 : Int32)) x y (own_sm (Sm.inc (szK k hk v).1 (by decide)))).2.2.2, if_pos rfl]
  rfl
theorem law_true (v : Int64) (p t x y f : Int32) : f0 v p t x y f = 1 := by
  unfold f0
  by_cases h1 : (f &&& (1 : Int32)) = (0 : Int32)
  · rw [if_pos h1]
    by_cases h2 : (f &&& (2 : Int32)) = (0 : Int32)
    · rw [if_pos h2]; exact own_key _ 0 (by decide) v t x y
    · rw [if_neg h2]; exact own_key _ 1 (by decide) v t x y
  · rw [if_neg h1]
    by_cases h2 : (f &&& (2 : Int32)) = (0 : Int32)
    · rw [if_pos h2]; exact own_key _ 1 (by decide) v t x y
    · rw [if_neg h2]; exact own_key _ 2 (by decide) v t x y

set_option maxRecDepth 65536 in
set_option maxHeartbeats 40000000 in
theorem comes_1 {Post : Tables → Env → Array Value → State → Outcome → State → Prop} (hpost : ∀ tb e args s v u, (limb_1_1.after args s (.returned v) u = true ∧ limb_1_2.after args s (.returned v) u = true ∧ True) → FrameEnd s (.returned v) u (Jvm.fieldLocs frame_1_writes args s ++ Jvm.arrayLocs frame_1_arrays args s ++ Jvm.staticLocs frame_1_statics s) 16 640 → Post tb e args s (.returned v) u) :
    ArmFor flags0 classFile x code maxLocals ret World_1 tables_1 room_1 Calls_1 rest_1 Pre_1 Post := by
  intro l hfl _ _ p e ha hc hk s m args below hf hA hF happ hP
  obtain ⟨hcalls, hrest, hpre⟩ := hP
  obtain ⟨-, -, -, hnamed, -, -, -, hat⟩ := (Spec.applies_iff hf).mp happ
  obtain ⟨hg, hn⟩ := and_e (Cond.before_iff.mp (show (Jvm.Cond.and given_1 narrow_1).before args s = true from hpre))
  obtain ⟨g0, hg⟩ := and_e hg
  obtain ⟨ga0, hg⟩ := and_e hg
  obtain ⟨ga1, hg⟩ := and_e hg
  obtain ⟨ga2, hg⟩ := and_e hg
  obtain ⟨ga3, hg⟩ := and_e hg
  obtain ⟨ga4, hg⟩ := and_e hg
  have ga5 := hg
  obtain ⟨w0, w1, w2, w3, w4, w5, rfl⟩ : ∃ w0 w1 w2 w3 w4 w5 : Value, args = #[w0, w1, w2, w3, w4, w5] := by
    have hs : args.size = 6 := by simpa [Cond.value, given_1] using g0
    obtain ⟨L⟩ := args
    match L, hs with
    | [w0, w1, w2, w3, w4, w5], _ => exact ⟨w0, w1, w2, w3, w4, w5, rfl⟩
  have hw := fun d (hd : d ∈ tables_1) => atoms_spec (ws := Jvm.Cond.code x code maxLocals ret :: tables_1) hat d (List.mem_cons_of_mem _ hd)
  have hfit : Fit s := fun {y c} hc i hi => by
    obtain ⟨ha, rfl⟩ := Array.getElem?_eq_some_iff.mp hc
    have q := List.all_eq_true.mp ((Array.all_eq_true_iff_forall_mem.mp hF) _ (Array.getElem_mem ha)) i (List.mem_range.mpr hi)
    simpa [Array.getElem?_eq_getElem hi] using q
  obtain ⟨i0, ei0⟩ := isL_v ga0
  obtain rfl : w0 = (.long i0) := Option.some.inj ei0
  obtain ⟨i1, ei1⟩ := is_v ga1
  obtain rfl : w1 = (.int i1) := Option.some.inj ei1
  obtain ⟨i2, ei2⟩ := is_v ga2
  obtain rfl : w2 = (.int i2) := Option.some.inj ei2
  obtain ⟨i3, ei3⟩ := is_v ga3
  obtain rfl : w3 = (.int i3) := Option.some.inj ei3
  obtain ⟨i4, ei4⟩ := is_v ga4
  obtain rfl : w4 = (.int i4) := Option.some.inj ei4
  obtain ⟨i5, ei5⟩ := is_v ga5
  obtain rfl : w5 = (.int i5) := Option.some.inj ei5
  obtain ⟨n, o, h1, h2, h3, v, L, rfl, hQ, hq⟩ := rm0 l s _ hw tables_1 i0 i1 i2 i3 i4 i5  s.heap s.heap.size (Nat.le_refl _)  p e ha hc hk s m _ below hf ((Spec.applies_iff_loose hf).mp happ).1 ⟨rfl, State.Warmed39.refl s, rfl⟩ trivial
  obtain ⟨hv, N⟩ := hQ
  rw [law_true i0 i1 i2 i3 i4 i5] at hv
  subst hv
  refine ⟨n, _, h1, h2, h3, hpost _ _ _ _ _ _ ⟨Cond.after_iff.mpr rfl, Cond.after_iff.mpr (eq_i res_at (Term.int_eval (1)) rfl), trivial⟩ ⟨hq.1, hq.2.1, (hq.2.2.sift fun y hy => Or.inr (N y hy)).mono (by decide) (by decide)⟩⟩
theorem main_1_1 : Claimed_1_1 := comes_1 fun _ _ _ _ _ _ h hF => ⟨h.1, hF⟩
theorem main_1_2 : Claimed_1_2 := comes_1 fun _ _ _ _ _ _ h hF => ⟨h.2.1, hF⟩
end Jvm.Pilot.@@N@@
namespace Jvm.Pilot.@@N@@
open Jvm Jvm.ClassFile Sem Op Lib Jvm.Free Jvm.Stand Jvm.Pilot.@@N@@.Jvm.D
/-! MADE BY PROGRAM (witnessworld.py) out of the Statement's table words and the real class files: 16 classes; the members and pool entries that the words name. The judged class is class 1, her method 1. -/
namespace start1
open Jvm.ClassFile
def u (s : String) : CpInfo := .utf8 (stringToUtf16 s)
/-- a pool by its gaps: so many unusable entries, then the entry; so many at the end -/
def gap : Nat → List CpInfo → List CpInfo
  | 0, r => r
  | n + 1, r => .unusable :: gap n r
def poolList (es : List (Nat × CpInfo)) (last : Nat) : List CpInfo := es.foldr (fun e r => gap e.1 (e.2 :: r)) (gap last [])
def pool (es : List (Nat × CpInfo)) (last : Nat) : Array CpInfo := ⟨poolList es last⟩
def fileOf (pool : Array CpInfo) (this : Nat) (attrs : Array Attribute := #[]) (ms : Array MethodInfo := #[]) (fl : Nat := 33) (sup : Nat := 0) (ifs : Array Nat := #[]) (fds : Array FieldInfo := #[]) : ClassFile where
  minorVersion := 0
  majorVersion := 65
  constantPool := pool
  accessFlags := fl
  thisClass := this
  superClass := sup
  interfaces := ifs
  fields := fds
  methods := ms
  attributes := attrs
def plain (name : String) (sup : Option ClassId) : Class where
  name := name
  kind := .ordinary
  loader := none
  accessFlags := 33
  super := sup
  interfaces := #[]
  cf := none
  fields := #[]
  methods := #[]
  instanceTypes := #[]
  staticTypes := #[]
  resolved := #[]
  callSites := []
  init := .initialized
  statics := none
  mirror := none

def pool0 : Array CpInfo := pool [(5, u "<init>"), (0, u "()V"), (1, .class_ 10), (1, u "java/lang/Object")] 113

def k0c0 : Code := { maxStack := 0, maxLocals := 1, code := object_method_1_code, exceptionTable := #[], attributes := #[] }
def k0m0 : Method := { name := "<init>", desc := "()V", sig := { parameters := [], returnType := none }, accessFlags := 1, code := some k0c0 }
/-- java/lang/Object -/
def k0 : Class := { plain "java/lang/Object" none with
  accessFlags := 33
  interfaces := #[]
  cf := some (fileOf pool0 8 #[] #[{ accessFlags := 1, nameIndex := 5, descriptorIndex := 6, attributes := #[] }] 33 0 #[] #[])
  fields := #[]
  methods := #[k0m0]
  instanceTypes := #[]
  staticTypes := #[]
  resolved := Array.replicate 124 none
  statics := none }

def pool1 : Array CpInfo := pool [(2, .class_ 4), (0, .nameAndType 5 6), (0, u "java/lang/Object"), (0, u "<init>"), (0, u "()V"), (0, .class_ 8), (0, u "com/example/tinwire/tinwire/codec/ByteOutput"), (0, .methodref 7 3), (0, .methodref 7 11), (0, .nameAndType 12 13), (0, u "writeByte"), (0, u "(I)V"), (0, .methodref 7 15), (0, .nameAndType 16 17), (0, u "size"), (0, u "()I"), (0, .methodref 7 19), (0, .nameAndType 20 21), (0, u "writeVarint"), (0, u "(J)V"), (0, .methodref 7 23), (0, .nameAndType 24 25), (0, u "varintAt"), (0, u "(I)J"), (0, .class_ 27), (0, u "com/example/tinwire/tinwire/codec/ByteOutputVarintAtPinLaw"), (2, u "law"), (0, u "(JIIIII)Z")] 3

def k1m0 : Method := { name := "<init>", desc := "()V", sig := { parameters := [], returnType := none }, accessFlags := 1, code := none }
def k1c1 : Code := { maxStack := 5, maxLocals := 15, code := code, exceptionTable := #[], attributes := #[] }
def k1m1 : Method := { name := "law", desc := "(JIIIII)Z", sig := { parameters := [.long, .int, .int, .int, .int, .int], returnType := some .boolean }, accessFlags := 9, code := some k1c1 }
/-- com/example/tinwire/tinwire/codec/ByteOutputVarintAtPinLaw -/
def k1 : Class := { plain "com/example/tinwire/tinwire/codec/ByteOutputVarintAtPinLaw" (some 0) with
  accessFlags := 49
  interfaces := #[]
  cf := some (fileOf pool1 26 #[] #[{ accessFlags := 1, nameIndex := 5, descriptorIndex := 6, attributes := #[] }, { accessFlags := 9, nameIndex := 30, descriptorIndex := 31, attributes := #[] }] 49 2 #[] #[])
  fields := #[]
  methods := #[k1m0, k1m1]
  instanceTypes := #[]
  staticTypes := #[]
  resolved := Array.replicate 35 none
  statics := none }

def pool2 : Array CpInfo := pool [(3, .methodref 4 5), (0, .class_ 6), (0, .nameAndType 7 8), (0, u "java/lang/Object"), (0, u "<init>"), (0, u "()V"), (0, .class_ 10), (0, u "com/example/tinwire/tinwire/codec/ByteOutput"), (0, .fieldref 9 12), (0, .nameAndType 13 14), (0, u "bytes"), (0, u "[B"), (2, u "SPARE"), (0, u "Ljava/lang/ThreadLocal;"), (12, .fieldref 9 32), (0, .nameAndType 33 34), (0, u "size"), (0, u "I"), (23, .methodref 9 59), (0, .nameAndType 60 61), (0, u "ensureRoom"), (0, u "(J)V"), (13, u "()I"), (8, .methodref 9 85), (0, .nameAndType 86 87), (0, u "varintLength"), (0, u "(J)I"), (0, .methodref 9 89), (0, .nameAndType 90 91), (0, u "putVarint"), (0, u "(IJ)V"), (2, u "writeByte"), (0, u "(I)V"), (0, .long 128), (4, .class_ 102), (0, u "java/lang/Long"), (4, u "LONG_LITTLE_ENDIAN"), (0, u "Ljava/lang/invoke/VarHandle;"), (15, .methodref 101 125), (0, .nameAndType 126 87), (0, u "numberOfLeadingZeros"), (0, .methodref 128 129), (0, .class_ 130), (0, .nameAndType 131 132), (0, u "java/lang/Math"), (0, u "max"), (0, u "(II)I"), (0, .long 18446744073709551488), (1, .long 127), (40, u "INITIAL_CAPACITY"), (2, u "MAX_CAPACITY"), (1, u "SPARES"), (1, u "MAX_SPARE_CAPACITY"), (19, u "writeVarint"), (10, u "varintAt"), (0, u "(I)J")] 20

def k2c0 : Code := { maxStack := 2, maxLocals := 1, code := prog_13_method_1_code, exceptionTable := #[], attributes := #[] }
def k2m0 : Method := { name := "<init>", desc := "()V", sig := { parameters := [], returnType := none }, accessFlags := 1, code := some k2c0 }
def k2c1 : Code := { maxStack := 1, maxLocals := 1, code := prog_13_method_4_code, exceptionTable := #[], attributes := #[] }
def k2m1 : Method := { name := "size", desc := "()I", sig := { parameters := [], returnType := some .int }, accessFlags := 1, code := some k2c1 }
def k2c2 : Code := { maxStack := 5, maxLocals := 2, code := prog_13_method_8_code, exceptionTable := #[], attributes := #[] }
def k2m2 : Method := { name := "writeByte", desc := "(I)V", sig := { parameters := [.int], returnType := none }, accessFlags := 1, code := some k2c2 }
def k2c3 : Code := { maxStack := 4, maxLocals := 4, code := prog_13_method_16_code, exceptionTable := #[], attributes := #[] }
def k2m3 : Method := { name := "writeVarint", desc := "(J)V", sig := { parameters := [.long], returnType := none }, accessFlags := 1, code := some k2c3 }
def k2c4 : Code := { maxStack := 5, maxLocals := 7, code := prog_13_method_24_code, exceptionTable := #[], attributes := #[] }
def k2m4 : Method := { name := "varintAt", desc := "(I)J", sig := { parameters := [.int], returnType := some .long }, accessFlags := 1, code := some k2c4 }
def k2c5 : Code := { maxStack := 4, maxLocals := 2, code := prog_13_method_25_code, exceptionTable := #[], attributes := #[] }
def k2m5 : Method := { name := "varintLength", desc := "(J)I", sig := { parameters := [.long], returnType := some .int }, accessFlags := 8, code := some k2c5 }
def k2c6 : Code := { maxStack := 6, maxLocals := 7, code := prog_13_method_26_code, exceptionTable := #[], attributes := #[] }
def k2m6 : Method := { name := "putVarint", desc := "(IJ)V", sig := { parameters := [.int, .long], returnType := none }, accessFlags := 2, code := some k2c6 }
def k2c7 : Code := { maxStack := 5, maxLocals := 3, code := prog_13_method_27_code, exceptionTable := #[], attributes := #[] }
def k2m7 : Method := { name := "ensureRoom", desc := "(J)V", sig := { parameters := [.long], returnType := none }, accessFlags := 2, code := some k2c7 }
/-- com/example/tinwire/tinwire/codec/ByteOutput -/
def k2 : Class := { plain "com/example/tinwire/tinwire/codec/ByteOutput" (some 0) with
  accessFlags := 49
  interfaces := #[]
  cf := some (fileOf pool2 9 #[] #[{ accessFlags := 1, nameIndex := 7, descriptorIndex := 8, attributes := #[] }, { accessFlags := 1, nameIndex := 33, descriptorIndex := 75, attributes := #[] }, { accessFlags := 1, nameIndex := 94, descriptorIndex := 95, attributes := #[] }, { accessFlags := 1, nameIndex := 203, descriptorIndex := 61, attributes := #[] }, { accessFlags := 1, nameIndex := 214, descriptorIndex := 215, attributes := #[] }, { accessFlags := 8, nameIndex := 86, descriptorIndex := 87, attributes := #[] }, { accessFlags := 2, nameIndex := 90, descriptorIndex := 91, attributes := #[] }, { accessFlags := 2, nameIndex := 60, descriptorIndex := 61, attributes := #[] }] 49 4 #[] #[{ accessFlags := 26, nameIndex := 176, descriptorIndex := 34, attributes := #[] }, { accessFlags := 24, nameIndex := 179, descriptorIndex := 34, attributes := #[] }, { accessFlags := 26, nameIndex := 181, descriptorIndex := 34, attributes := #[] }, { accessFlags := 26, nameIndex := 183, descriptorIndex := 34, attributes := #[] }, { accessFlags := 26, nameIndex := 107, descriptorIndex := 108, attributes := #[] }, { accessFlags := 26, nameIndex := 17, descriptorIndex := 18, attributes := #[] }, { accessFlags := 2, nameIndex := 13, descriptorIndex := 14, attributes := #[] }, { accessFlags := 2, nameIndex := 33, descriptorIndex := 34, attributes := #[] }])
  fields := #[{ name := "INITIAL_CAPACITY", type := .int, accessFlags := 26, slot := 0, constantValue := 0 }, { name := "MAX_CAPACITY", type := .int, accessFlags := 24, slot := 1, constantValue := 0 }, { name := "SPARES", type := .int, accessFlags := 26, slot := 2, constantValue := 0 }, { name := "MAX_SPARE_CAPACITY", type := .int, accessFlags := 26, slot := 3, constantValue := 0 }, { name := "LONG_LITTLE_ENDIAN", type := (.object "java/lang/invoke/VarHandle"), accessFlags := 26, slot := 4, constantValue := 0 }, { name := "SPARE", type := (.object "java/lang/ThreadLocal"), accessFlags := 26, slot := 5, constantValue := 0 }, { name := "bytes", type := (.array .byte), accessFlags := 2, slot := 0, constantValue := 0 }, { name := "size", type := .int, accessFlags := 2, slot := 1, constantValue := 0 }]
  methods := #[k2m0, k2m1, k2m2, k2m3, k2m4, k2m5, k2m6, k2m7]
  instanceTypes := #[(.array .byte), .int]
  staticTypes := #[.int, .int, .int, .int, (.object "java/lang/invoke/VarHandle"), (.object "java/lang/ThreadLocal")]
  resolved := Array.replicate 236 none
  statics := none }

def pool3 : Array CpInfo := pool [(1, .class_ 2), (0, u "java/io/Serializable"), (0, .class_ 4), (0, u "java/lang/Object")] 2

/-- java/io/Serializable -/
def k3 : Class := { plain "java/io/Serializable" (some 0) with
  accessFlags := 1537
  interfaces := #[]
  cf := some (fileOf pool3 1 #[] #[] 1537 3 #[] #[])
  fields := #[]
  methods := #[]
  instanceTypes := #[]
  staticTypes := #[]
  resolved := Array.replicate 7 none
  statics := none }

def pool4 : Array CpInfo := pool [(2, .class_ 4), (1, u "java/lang/Object"), (0, u "<init>"), (0, u "()V"), (1, .class_ 10), (1, u "java/lang/Number"), (2, .class_ 14), (0, u "java/io/Serializable"), (0, u "serialVersionUID"), (0, u "J")] 20

def k4m0 : Method := { name := "<init>", desc := "()V", sig := { parameters := [], returnType := none }, accessFlags := 1, code := none }
/-- java/lang/Number -/
def k4 : Class := { plain "java/lang/Number" (some 0) with
  accessFlags := 1057
  interfaces := #[3]
  cf := some (fileOf pool4 8 #[] #[{ accessFlags := 1, nameIndex := 5, descriptorIndex := 6, attributes := #[] }] 1057 2 #[13] #[{ accessFlags := 26, nameIndex := 15, descriptorIndex := 16, attributes := #[] }])
  fields := #[{ name := "serialVersionUID", type := .long, accessFlags := 26, slot := 0, constantValue := 0 }]
  methods := #[k4m0]
  instanceTypes := #[]
  staticTypes := #[.long]
  resolved := Array.replicate 37 none
  statics := none }

def pool5 : Array CpInfo := pool [(1, .class_ 2), (0, u "java/lang/Comparable"), (0, .class_ 4), (0, u "java/lang/Object")] 7

/-- java/lang/Comparable -/
def k5 : Class := { plain "java/lang/Comparable" (some 0) with
  accessFlags := 1537
  interfaces := #[]
  cf := some (fileOf pool5 1 #[] #[] 1537 3 #[] #[])
  fields := #[]
  methods := #[]
  instanceTypes := #[]
  staticTypes := #[]
  resolved := Array.replicate 12 none
  statics := none }

def pool6 : Array CpInfo := pool [(1, .class_ 2), (0, u "java/lang/constant/Constable"), (0, .class_ 4), (0, u "java/lang/Object")] 6

/-- java/lang/constant/Constable -/
def k6 : Class := { plain "java/lang/constant/Constable" (some 0) with
  accessFlags := 1537
  interfaces := #[]
  cf := some (fileOf pool6 1 #[] #[] 1537 3 #[] #[])
  fields := #[]
  methods := #[]
  instanceTypes := #[]
  staticTypes := #[]
  resolved := Array.replicate 11 none
  statics := none }

def pool7 : Array CpInfo := pool [(1, .class_ 2), (0, u "java/lang/constant/ConstantDesc"), (0, .class_ 4), (0, u "java/lang/Object")] 32

/-- java/lang/constant/ConstantDesc -/
def k7 : Class := { plain "java/lang/constant/ConstantDesc" (some 0) with
  accessFlags := 1537
  interfaces := #[]
  cf := some (fileOf pool7 1 #[] #[] 1537 3 #[] #[])
  fields := #[]
  methods := #[]
  instanceTypes := #[]
  staticTypes := #[]
  resolved := Array.replicate 37 none
  statics := none }

def pool8 : Array CpInfo := pool [(1, .class_ 2), (0, u "java/lang/Long"), (15, .class_ 20), (1, u "java/lang/Integer"), (79, u "numberOfLeadingZeros"), (0, u "(J)I"), (133, .class_ 237), (1, u "java/lang/Long$LongCache"), (33, .class_ 272), (0, u "java/lang/Number"), (2, u "value"), (0, u "J"), (31, .methodref 18 309), (0, .nameAndType 100 310), (0, u "(I)I"), (50, u "TYPE"), (0, u "Ljava/lang/Class;"), (0, .class_ 364), (0, u "java/lang/Comparable"), (0, .class_ 366), (0, u "java/lang/constant/Constable"), (0, .class_ 368), (0, u "java/lang/constant/ConstantDesc"), (0, u "MIN_VALUE"), (1, u "MAX_VALUE"), (4, u "SIZE"), (0, u "I"), (1, u "BYTES"), (1, u "serialVersionUID")] 142

def k8c0 : Code := { maxStack := 3, maxLocals := 3, code := jdk_35_method_48_code, exceptionTable := #[], attributes := #[] }
def k8m0 : Method := { name := "numberOfLeadingZeros", desc := "(J)I", sig := { parameters := [.long], returnType := some .int }, accessFlags := 9, code := some k8c0 }
/-- java/lang/Long -/
def k8 : Class := { plain "java/lang/Long" (some 4) with
  accessFlags := 49
  interfaces := #[5, 6, 7]
  cf := some (fileOf pool8 1 #[.nestMembers #[235]] #[{ accessFlags := 9, nameIndex := 100, descriptorIndex := 101, attributes := #[] }] 49 271 #[363, 365, 367] #[{ accessFlags := 25, nameIndex := 369, descriptorIndex := 276, attributes := #[] }, { accessFlags := 25, nameIndex := 371, descriptorIndex := 276, attributes := #[] }, { accessFlags := 25, nameIndex := 361, descriptorIndex := 362, attributes := #[] }, { accessFlags := 18, nameIndex := 275, descriptorIndex := 276, attributes := #[] }, { accessFlags := 25, nameIndex := 376, descriptorIndex := 377, attributes := #[] }, { accessFlags := 25, nameIndex := 379, descriptorIndex := 377, attributes := #[] }, { accessFlags := 26, nameIndex := 381, descriptorIndex := 276, attributes := #[] }])
  fields := #[{ name := "MIN_VALUE", type := .long, accessFlags := 25, slot := 0, constantValue := 0 }, { name := "MAX_VALUE", type := .long, accessFlags := 25, slot := 1, constantValue := 0 }, { name := "TYPE", type := (.object "java/lang/Class"), accessFlags := 25, slot := 2, constantValue := 0 }, { name := "value", type := .long, accessFlags := 18, slot := 0, constantValue := 0 }, { name := "SIZE", type := .int, accessFlags := 25, slot := 3, constantValue := 0 }, { name := "BYTES", type := .int, accessFlags := 25, slot := 4, constantValue := 0 }, { name := "serialVersionUID", type := .long, accessFlags := 26, slot := 5, constantValue := 0 }]
  methods := #[k8m0]
  instanceTypes := #[.long]
  staticTypes := #[.long, .long, (.object "java/lang/Class"), .int, .int, .long]
  resolved := Array.replicate 524 none
  statics := none }

def pool9 : Array CpInfo := pool [(1, .class_ 2), (0, u "java/lang/Integer"), (16, u "digits"), (0, u "[C"), (32, u "numberOfLeadingZeros"), (0, u "(I)I"), (30, u "DigitOnes"), (0, u "[B"), (2, u "DigitTens"), (99, .class_ 190), (0, u "java/lang/Integer$IntegerCache"), (3, u "I"), (8, .class_ 204), (0, u "java/lang/Number"), (2, u "value"), (56, .integer 65536), (37, u "TYPE"), (0, u "Ljava/lang/Class;"), (0, .class_ 305), (0, u "java/lang/Comparable"), (0, .class_ 307), (0, u "java/lang/constant/Constable"), (0, .class_ 309), (0, u "java/lang/constant/ConstantDesc"), (0, u "MIN_VALUE"), (1, u "MAX_VALUE"), (3, u "SIZE"), (1, u "BYTES"), (1, u "serialVersionUID"), (0, u "J")] 131

def k9c0 : Code := { maxStack := 3, maxLocals := 2, code := jdk_33_method_47_code, exceptionTable := #[], attributes := #[] }
def k9m0 : Method := { name := "numberOfLeadingZeros", desc := "(I)I", sig := { parameters := [.int], returnType := some .int }, accessFlags := 9, code := some k9c0 }
/-- java/lang/Integer -/
def k9 : Class := { plain "java/lang/Integer" (some 4) with
  accessFlags := 49
  interfaces := #[5, 6, 7]
  cf := some (fileOf pool9 1 #[.nestMembers #[189]] #[{ accessFlags := 9, nameIndex := 53, descriptorIndex := 54, attributes := #[] }] 49 203 #[304, 306, 308] #[{ accessFlags := 25, nameIndex := 310, descriptorIndex := 194, attributes := #[] }, { accessFlags := 25, nameIndex := 312, descriptorIndex := 194, attributes := #[] }, { accessFlags := 25, nameIndex := 302, descriptorIndex := 303, attributes := #[] }, { accessFlags := 24, nameIndex := 19, descriptorIndex := 20, attributes := #[] }, { accessFlags := 24, nameIndex := 89, descriptorIndex := 86, attributes := #[] }, { accessFlags := 24, nameIndex := 85, descriptorIndex := 86, attributes := #[] }, { accessFlags := 18, nameIndex := 207, descriptorIndex := 194, attributes := #[] }, { accessFlags := 25, nameIndex := 316, descriptorIndex := 194, attributes := #[] }, { accessFlags := 25, nameIndex := 318, descriptorIndex := 194, attributes := #[] }, { accessFlags := 26, nameIndex := 320, descriptorIndex := 321, attributes := #[] }])
  fields := #[{ name := "MIN_VALUE", type := .int, accessFlags := 25, slot := 0, constantValue := 0 }, { name := "MAX_VALUE", type := .int, accessFlags := 25, slot := 1, constantValue := 0 }, { name := "TYPE", type := (.object "java/lang/Class"), accessFlags := 25, slot := 2, constantValue := 0 }, { name := "digits", type := (.array .char), accessFlags := 24, slot := 3, constantValue := 0 }, { name := "DigitTens", type := (.array .byte), accessFlags := 24, slot := 4, constantValue := 0 }, { name := "DigitOnes", type := (.array .byte), accessFlags := 24, slot := 5, constantValue := 0 }, { name := "value", type := .int, accessFlags := 18, slot := 0, constantValue := 0 }, { name := "SIZE", type := .int, accessFlags := 25, slot := 6, constantValue := 0 }, { name := "BYTES", type := .int, accessFlags := 25, slot := 7, constantValue := 0 }, { name := "serialVersionUID", type := .long, accessFlags := 26, slot := 8, constantValue := 0 }]
  methods := #[k9m0]
  instanceTypes := #[.int]
  staticTypes := #[.int, .int, (.object "java/lang/Class"), (.array .char), (.array .byte), (.array .byte), .int, .int, .long]
  resolved := Array.replicate 453 none
  statics := none }

def pool10 : Array CpInfo := pool [(1, .class_ 2), (0, u "java/lang/Math"), (1, .class_ 6), (1, u "java/lang/Object"), (0, u "<init>"), (0, u "()V"), (89, .class_ 100), (1, u "java/lang/Math$RandomNumberGeneratorHolder"), (71, u "negativeZeroFloatBits"), (0, u "J"), (2, u "negativeZeroDoubleBits"), (21, u "max"), (46, u "$assertionsDisabled"), (0, u "Z"), (88, u "(II)I"), (2, u "twoToTheDoubleScaleDown"), (0, u "D"), (4, u "twoToTheDoubleScaleUp"), (9, u "E"), (3, u "PI"), (2, u "TAU"), (2, u "DEGREES_TO_RADIANS"), (0, u "RADIANS_TO_DEGREES")] 94

def k10m0 : Method := { name := "<init>", desc := "()V", sig := { parameters := [], returnType := none }, accessFlags := 2, code := none }
def k10c1 : Code := { maxStack := 2, maxLocals := 2, code := jdk_29_method_65_code, exceptionTable := #[], attributes := #[] }
def k10m1 : Method := { name := "max", desc := "(II)I", sig := { parameters := [.int, .int], returnType := some .int }, accessFlags := 9, code := some k10c1 }
/-- java/lang/Math -/
def k10 : Class := { plain "java/lang/Math" (some 0) with
  accessFlags := 49
  interfaces := #[]
  cf := some (fileOf pool10 1 #[.nestMembers #[98]] #[{ accessFlags := 2, nameIndex := 7, descriptorIndex := 8, attributes := #[] }, { accessFlags := 9, nameIndex := 198, descriptorIndex := 335, attributes := #[] }] 49 4 #[] #[{ accessFlags := 25, nameIndex := 354, descriptorIndex := 339, attributes := #[] }, { accessFlags := 25, nameIndex := 358, descriptorIndex := 339, attributes := #[] }, { accessFlags := 25, nameIndex := 361, descriptorIndex := 339, attributes := #[] }, { accessFlags := 26, nameIndex := 364, descriptorIndex := 339, attributes := #[] }, { accessFlags := 26, nameIndex := 365, descriptorIndex := 339, attributes := #[] }, { accessFlags := 26, nameIndex := 172, descriptorIndex := 173, attributes := #[] }, { accessFlags := 26, nameIndex := 176, descriptorIndex := 173, attributes := #[] }, { accessFlags := 8, nameIndex := 344, descriptorIndex := 339, attributes := #[] }, { accessFlags := 8, nameIndex := 338, descriptorIndex := 339, attributes := #[] }, { accessFlags := 4120, nameIndex := 245, descriptorIndex := 246, attributes := #[] }])
  fields := #[{ name := "E", type := .double, accessFlags := 25, slot := 0, constantValue := 0 }, { name := "PI", type := .double, accessFlags := 25, slot := 1, constantValue := 0 }, { name := "TAU", type := .double, accessFlags := 25, slot := 2, constantValue := 0 }, { name := "DEGREES_TO_RADIANS", type := .double, accessFlags := 26, slot := 3, constantValue := 0 }, { name := "RADIANS_TO_DEGREES", type := .double, accessFlags := 26, slot := 4, constantValue := 0 }, { name := "negativeZeroFloatBits", type := .long, accessFlags := 26, slot := 5, constantValue := 0 }, { name := "negativeZeroDoubleBits", type := .long, accessFlags := 26, slot := 6, constantValue := 0 }, { name := "twoToTheDoubleScaleUp", type := .double, accessFlags := 8, slot := 7, constantValue := 0 }, { name := "twoToTheDoubleScaleDown", type := .double, accessFlags := 8, slot := 8, constantValue := 0 }, { name := "$assertionsDisabled", type := .boolean, accessFlags := 4120, slot := 9, constantValue := 0 }]
  methods := #[k10m0, k10m1]
  instanceTypes := #[]
  staticTypes := #[.double, .double, .double, .double, .double, .long, .long, .double, .double, .boolean]
  resolved := Array.replicate 460 none
  statics := none }

def pool11 : Array CpInfo := pool [(1, u "java/lang/Cloneable"), (0, .class_ 1), (0, u "java/lang/Object"), (0, .class_ 3)] 3

/-- java/lang/Cloneable -/
def k11 : Class := { plain "java/lang/Cloneable" (some 0) with
  accessFlags := 1537
  interfaces := #[]
  cf := some (fileOf pool11 2 #[] #[] 1537 4 #[] #[])
  fields := #[]
  methods := #[]
  instanceTypes := #[]
  staticTypes := #[]
  resolved := Array.replicate 8 none
  statics := none }

/-- the primitive byte -/
def k12 : Class := { plain "byte" none with kind := .primitive 'B', accessFlags := 0x411 }
/-- [B -/
def k13 : Class := { plain "[B" (some 0) with kind := .array 12 .byte, interfaces := #[11, 3], accessFlags := 1041 }

/-- the primitive int -/
def k14 : Class := { plain "int" none with kind := .primitive 'I', accessFlags := 0x411 }
/-- [I -/
def k15 : Class := { plain "[I" (some 0) with kind := .array 14 .int, interfaces := #[11, 3], accessFlags := 1041 }

def heap : Heap := #[]
def classes : Array Class := #[k0, k1, k2, k3, k4, k5, k6, k7, k8, k9, k10, k11, k12, k13, k14, k15]
def interned : List (Array UInt16 × Addr) := []
def slotsUsed : Nat := 0
def theMethod : MethodId := ⟨1, 1⟩
def args0 : Array Value := #[.long 300, .int 7, .int 40, .int 200, .int 40, .int 3]
def aboutOver (below : List Frame) : State where
  vm := { classes := classes, interned := interned.toArray }
  heap := heap
  slotsUsed := slotsUsed
  threads := #[{ frames := .invoking theMethod args0 :: below }]
def below0 : List Frame := [.native { method := ⟨0, 0⟩, args := #[] }]
def about1 : State := aboutOver below0
def p0 : Program := .bare "" "" ""
def e0 : Env := launch0.env 0 0 0
theorem w_frames : about1.frames = Frame.invoking theMethod args0 :: below0 := rfl
set_option maxRecDepth 65536 in
theorem w_args : argsFit about1.vm theMethod args0 = true := by decide +kernel
set_option maxRecDepth 65536 in
theorem w_heap : heapFits about1 = true := by decide +kernel
set_option maxRecDepth 65536 in
theorem w_runnable : about1.curStatus? = some .runnable := by decide +kernel
set_option maxRecDepth 65536 in
theorem w_alone : about1.alone = true := by decide +kernel
set_option maxRecDepth 65536 in
theorem w_named : about1.methodNamed? x = some theMethod := by decide +kernel
set_option maxRecDepth 65536 in
theorem w_hears : about1.hears theMethod below0 = true := by decide +kernel
set_option maxRecDepth 65536 in
theorem w_ripe : about1.ripe theMethod args0 below0 = true := by decide +kernel
theorem w_running : about1.status = .running := rfl
set_option maxRecDepth 65536 in
theorem w_room : about1.hasRoom e0.platform room_1 = true :=
  launch0.hasRoom_least _ room_1 (by decide +kernel) (by decide +kernel) (by decide +kernel) (by decide +kernel) (by decide +kernel) (by decide +kernel)
theorem allAtoms_all (ts : List Jvm.Cond) (a : Array Jvm.Value) (st : Jvm.State) : (allAtoms ts).before a st = ts.all (fun c => c.before a st) := by
  induction ts with
  | nil => rfl
  | cons c t ih =>
    show (Jvm.Cond.and c (allAtoms t)).before a st = _
    rw [Jvm.Cond.before_and, ih, List.all_cons]
def words1 : List Jvm.Cond := Jvm.Cond.code x code maxLocals ret :: tables_1
/-- a 'code' word, met by the world's own term for the bytes: nothing is compared byte by byte -/
theorem code_word {y : MethodName} {bytes : ByteArray} {mx : Nat} {rt : Option FieldType} {a : Array Value} {s : State} {m : MethodId} {meth : Method} {c : Code} (h1 : s.methodNamed? y = some m) (h2 : s.vm.method? m = some meth) (h3 : meth.code = some c) (h4 : c.code = bytes)
    (h5 : (c.maxLocals == mx && c.exceptionTable.isEmpty && decide (c.maxStack ≤ mostOperands) && decide (meth.sig.returnType = rt) && !meth.locks && decide (parseMethodDescriptor y.desc = some meth.sig)) = true) : (Jvm.Cond.code y bytes mx rt).before a s = true := by
  simp only [Bool.and_eq_true, beq_iff_eq, Bool.not_eq_true', decide_eq_true_eq] at h5
  obtain ⟨⟨⟨⟨⟨g1, g2⟩, g3⟩, g4⟩, g5⟩, g6⟩ := h5
  simp [Cond.before, Cond.holds, Cond.value, h1, h2, h3, h4, g1, g2, g3, g4, g5, g6]
def isCode : Jvm.Cond → Bool
  | .code _ _ _ _ => true
  | _ => false
theorem all_split {L : List Jvm.Cond} {P : Jvm.Cond → Bool} (h1 : L.all (fun c => isCode c || P c) = true) (h2 : ∀ c ∈ L.filter isCode, P c = true) : L.all P = true := by
  refine List.all_eq_true.mpr fun c hc => ?_
  have h := List.all_eq_true.mp h1 c hc
  rcases Bool.eq_false_or_eq_true (isCode c) with hi | hi
  · exact h2 c (List.mem_filter.mpr ⟨hc, hi⟩)
  · simpa [hi] using h
set_option maxRecDepth 65536 in
theorem w_c0 : (Jvm.Cond.code x code maxLocals ret).before args0 about1 = true := code_word (m := ⟨1, 1⟩) (meth := k1m1) (c := k1c1) (by decide +kernel) rfl rfl rfl (by decide +kernel)
set_option maxRecDepth 65536 in
theorem w_c1 : (Jvm.Cond.code ({ cls := "com/example/tinwire/tinwire/codec/ByteOutput", name := "<init>", desc := "()V" } : Jvm.MethodName) prog_13_method_1_code (1 : Nat) (Option.none : Option Jvm.ClassFile.FieldType)).before args0 about1 = true := code_word (m := ⟨2, 0⟩) (meth := k2m0) (c := k2c0) (by decide +kernel) rfl rfl rfl (by decide +kernel)
set_option maxRecDepth 65536 in
theorem w_c2 : (Jvm.Cond.code ({ cls := "java/lang/Object", name := "<init>", desc := "()V" } : Jvm.MethodName) object_method_1_code (1 : Nat) (Option.none : Option Jvm.ClassFile.FieldType)).before args0 about1 = true := code_word (m := ⟨0, 0⟩) (meth := k0m0) (c := k0c0) (by decide +kernel) rfl rfl rfl (by decide +kernel)
set_option maxRecDepth 65536 in
theorem w_c3 : (Jvm.Cond.code ({ cls := "com/example/tinwire/tinwire/codec/ByteOutput", name := "size", desc := "()I" } : Jvm.MethodName) prog_13_method_4_code (1 : Nat) (Option.some Jvm.ClassFile.FieldType.int)).before args0 about1 = true := code_word (m := ⟨2, 1⟩) (meth := k2m1) (c := k2c1) (by decide +kernel) rfl rfl rfl (by decide +kernel)
set_option maxRecDepth 65536 in
theorem w_c4 : (Jvm.Cond.code ({ cls := "com/example/tinwire/tinwire/codec/ByteOutput", name := "writeVarint", desc := "(J)V" } : Jvm.MethodName) prog_13_method_16_code (4 : Nat) (Option.none : Option Jvm.ClassFile.FieldType)).before args0 about1 = true := code_word (m := ⟨2, 3⟩) (meth := k2m3) (c := k2c3) (by decide +kernel) rfl rfl rfl (by decide +kernel)
set_option maxRecDepth 65536 in
theorem w_c5 : (Jvm.Cond.code ({ cls := "com/example/tinwire/tinwire/codec/ByteOutput", name := "varintLength", desc := "(J)I" } : Jvm.MethodName) prog_13_method_25_code (2 : Nat) (Option.some Jvm.ClassFile.FieldType.int)).before args0 about1 = true := code_word (m := ⟨2, 5⟩) (meth := k2m5) (c := k2c5) (by decide +kernel) rfl rfl rfl (by decide +kernel)
set_option maxRecDepth 65536 in
theorem w_c6 : (Jvm.Cond.code ({ cls := "java/lang/Long", name := "numberOfLeadingZeros", desc := "(J)I" } : Jvm.MethodName) jdk_35_method_48_code (3 : Nat) (Option.some Jvm.ClassFile.FieldType.int)).before args0 about1 = true := code_word (m := ⟨8, 0⟩) (meth := k8m0) (c := k8c0) (by decide +kernel) rfl rfl rfl (by decide +kernel)
set_option maxRecDepth 65536 in
theorem w_c7 : (Jvm.Cond.code ({ cls := "java/lang/Integer", name := "numberOfLeadingZeros", desc := "(I)I" } : Jvm.MethodName) jdk_33_method_47_code (2 : Nat) (Option.some Jvm.ClassFile.FieldType.int)).before args0 about1 = true := code_word (m := ⟨9, 0⟩) (meth := k9m0) (c := k9c0) (by decide +kernel) rfl rfl rfl (by decide +kernel)
set_option maxRecDepth 65536 in
theorem w_c8 : (Jvm.Cond.code ({ cls := "java/lang/Math", name := "max", desc := "(II)I" } : Jvm.MethodName) jdk_29_method_65_code (2 : Nat) (Option.some Jvm.ClassFile.FieldType.int)).before args0 about1 = true := code_word (m := ⟨10, 1⟩) (meth := k10m1) (c := k10c1) (by decide +kernel) rfl rfl rfl (by decide +kernel)
set_option maxRecDepth 65536 in
theorem w_c9 : (Jvm.Cond.code ({ cls := "com/example/tinwire/tinwire/codec/ByteOutput", name := "ensureRoom", desc := "(J)V" } : Jvm.MethodName) prog_13_method_27_code (3 : Nat) (Option.none : Option Jvm.ClassFile.FieldType)).before args0 about1 = true := code_word (m := ⟨2, 7⟩) (meth := k2m7) (c := k2c7) (by decide +kernel) rfl rfl rfl (by decide +kernel)
set_option maxRecDepth 65536 in
theorem w_c10 : (Jvm.Cond.code ({ cls := "com/example/tinwire/tinwire/codec/ByteOutput", name := "putVarint", desc := "(IJ)V" } : Jvm.MethodName) prog_13_method_26_code (7 : Nat) (Option.none : Option Jvm.ClassFile.FieldType)).before args0 about1 = true := code_word (m := ⟨2, 6⟩) (meth := k2m6) (c := k2c6) (by decide +kernel) rfl rfl rfl (by decide +kernel)
set_option maxRecDepth 65536 in
theorem w_c11 : (Jvm.Cond.code ({ cls := "com/example/tinwire/tinwire/codec/ByteOutput", name := "writeByte", desc := "(I)V" } : Jvm.MethodName) prog_13_method_8_code (2 : Nat) (Option.none : Option Jvm.ClassFile.FieldType)).before args0 about1 = true := code_word (m := ⟨2, 2⟩) (meth := k2m2) (c := k2c2) (by decide +kernel) rfl rfl rfl (by decide +kernel)
set_option maxRecDepth 65536 in
theorem w_c12 : (Jvm.Cond.code ({ cls := "com/example/tinwire/tinwire/codec/ByteOutput", name := "varintAt", desc := "(I)J" } : Jvm.MethodName) prog_13_method_24_code (7 : Nat) (Option.some Jvm.ClassFile.FieldType.long)).before args0 about1 = true := code_word (m := ⟨2, 4⟩) (meth := k2m4) (c := k2c4) (by decide +kernel) rfl rfl rfl (by decide +kernel)
def codes1 : List Jvm.Cond := [Jvm.Cond.code x code maxLocals ret, Jvm.Cond.code ({ cls := "com/example/tinwire/tinwire/codec/ByteOutput", name := "<init>", desc := "()V" } : Jvm.MethodName) prog_13_method_1_code (1 : Nat) (Option.none : Option Jvm.ClassFile.FieldType), Jvm.Cond.code ({ cls := "java/lang/Object", name := "<init>", desc := "()V" } : Jvm.MethodName) object_method_1_code (1 : Nat) (Option.none : Option Jvm.ClassFile.FieldType), Jvm.Cond.code ({ cls := "com/example/tinwire/tinwire/codec/ByteOutput", name := "size", desc := "()I" } : Jvm.MethodName) prog_13_method_4_code (1 : Nat) (Option.some Jvm.ClassFile.FieldType.int), Jvm.Cond.code ({ cls := "com/example/tinwire/tinwire/codec/ByteOutput", name := "writeVarint", desc := "(J)V" } : Jvm.MethodName) prog_13_method_16_code (4 : Nat) (Option.none : Option Jvm.ClassFile.FieldType), Jvm.Cond.code ({ cls := "com/example/tinwire/tinwire/codec/ByteOutput", name := "varintLength", desc := "(J)I" } : Jvm.MethodName) prog_13_method_25_code (2 : Nat) (Option.some Jvm.ClassFile.FieldType.int), Jvm.Cond.code ({ cls := "java/lang/Long", name := "numberOfLeadingZeros", desc := "(J)I" } : Jvm.MethodName) jdk_35_method_48_code (3 : Nat) (Option.some Jvm.ClassFile.FieldType.int), Jvm.Cond.code ({ cls := "java/lang/Integer", name := "numberOfLeadingZeros", desc := "(I)I" } : Jvm.MethodName) jdk_33_method_47_code (2 : Nat) (Option.some Jvm.ClassFile.FieldType.int), Jvm.Cond.code ({ cls := "java/lang/Math", name := "max", desc := "(II)I" } : Jvm.MethodName) jdk_29_method_65_code (2 : Nat) (Option.some Jvm.ClassFile.FieldType.int), Jvm.Cond.code ({ cls := "com/example/tinwire/tinwire/codec/ByteOutput", name := "ensureRoom", desc := "(J)V" } : Jvm.MethodName) prog_13_method_27_code (3 : Nat) (Option.none : Option Jvm.ClassFile.FieldType), Jvm.Cond.code ({ cls := "com/example/tinwire/tinwire/codec/ByteOutput", name := "putVarint", desc := "(IJ)V" } : Jvm.MethodName) prog_13_method_26_code (7 : Nat) (Option.none : Option Jvm.ClassFile.FieldType), Jvm.Cond.code ({ cls := "com/example/tinwire/tinwire/codec/ByteOutput", name := "writeByte", desc := "(I)V" } : Jvm.MethodName) prog_13_method_8_code (2 : Nat) (Option.none : Option Jvm.ClassFile.FieldType), Jvm.Cond.code ({ cls := "com/example/tinwire/tinwire/codec/ByteOutput", name := "varintAt", desc := "(I)J" } : Jvm.MethodName) prog_13_method_24_code (7 : Nat) (Option.some Jvm.ClassFile.FieldType.long)]
set_option maxRecDepth 65536 in
theorem codes_eq : words1.filter isCode = codes1 := rfl
theorem w_codes : ∀ c ∈ words1.filter isCode, c.before args0 about1 = true := by
  rw [codes_eq]
  intro c hc
  simp only [codes1, List.mem_cons, List.not_mem_nil, or_false] at hc
  rcases hc with rfl | rfl | rfl | rfl | rfl | rfl | rfl | rfl | rfl | rfl | rfl | rfl | rfl
  · exact w_c0
  · exact w_c1
  · exact w_c2
  · exact w_c3
  · exact w_c4
  · exact w_c5
  · exact w_c6
  · exact w_c7
  · exact w_c8
  · exact w_c9
  · exact w_c10
  · exact w_c11
  · exact w_c12
set_option maxRecDepth 65536 in
theorem w_t1 : (words1.take 24).all (fun c => isCode c || c.before args0 about1) = true := by decide +kernel
set_option maxRecDepth 65536 in
theorem w_t2 : ((words1.drop 24).take 24).all (fun c => isCode c || c.before args0 about1) = true := by decide +kernel
set_option maxRecDepth 65536 in
theorem w_t3 : ((words1.drop 24).drop 24).all (fun c => isCode c || c.before args0 about1) = true := by decide +kernel
theorem w_tables : (allAtoms (Jvm.Cond.code x code maxLocals ret :: tables_1)).before args0 about1 = true := by
  rw [allAtoms_all]
  show words1.all (fun c => c.before args0 about1) = true
  refine all_split ?_ w_codes
  rw [← List.take_append_drop 24 words1, List.all_append, w_t1, ← List.take_append_drop 24 (words1.drop 24), List.all_append, w_t2, w_t3]
  rfl
set_option maxRecDepth 65536 in
theorem w_case : (Jvm.Cond.and given_1 narrow_1).before args0 about1 = true := by decide +kernel
theorem w_applies : (headSpec (Jvm.Cond.code x code maxLocals ret :: tables_1) room_1).applies x e0.platform about1 = true :=
  (Spec.applies_iff w_frames).mpr ⟨w_running, w_runnable, w_alone, w_named, w_hears, w_ripe, w_room, w_tables⟩
theorem atStart : AtStart classFile x code maxLocals ret World_1 tables_1 room_1 Calls_1 rest_1 Pre_1 launch0 p0 e0 about1 theMethod args0 below0 :=
  ⟨lists_1, trivial, launch0.admits_env _ _ _, launch0.least_env, fairChoices_fair.cas, fairChoices_fair.clock, w_frames, w_args, w_heap, w_applies, trivial, trivial, w_case⟩
end start1
theorem witness_1 : WitnessClaimed_1 := ⟨start1.p0, start1.e0, start1.about1, start1.theMethod, start1.args0, start1.below0, start1.atStart⟩
end Jvm.Pilot.@@N@@
