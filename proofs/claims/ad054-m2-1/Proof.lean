import JvmDerived
import JvmDerived.Pilot.@@N@@Statement
import JvmDerived.Pilot.@@N@@Code
set_option linter.unusedVariables false
set_option linter.unusedSimpArgs false
namespace Jvm.OwnKit
open Sem ClassFile Op Lib Jvm.Stand Jvm.Free Jvm.LawKit Jvm.RoadKit
/-- from S the run comes to a state of which Φ holds -/
def Go (p : Program) (e : Env) (below : List Frame) (Φ : State → Prop) (S : State) : Prop := ∃ u, Steps p.tables e below S u ∧ Φ u
theorem Go.step {p : Program} {e : Env} {below : List Frame} {Φ : State → Prop} {S S' : State} (h : ∀ t, Steps p.tables e below S' t → Steps p.tables e below S t) (k : Go p e below Φ S') : Go p e below Φ S := by
  obtain ⟨u, q, r⟩ := k
  exact ⟨u, h u q, r⟩
theorem Go.trans {p : Program} {e : Env} {below : List Frame} {Φ : State → Prop} {S S' : State} (h : Steps p.tables e below S S') (k : Go p e below Φ S') : Go p e below Φ S := by
  obtain ⟨u, q, r⟩ := k
  exact ⟨u, Steps.trans h q, r⟩
theorem Go.here {p : Program} {e : Env} {below : List Frame} {Φ : State → Prop} {S : State} (k : Φ S) : Go p e below Φ S := ⟨S, Steps.refl _, k⟩
/-- the end of a body -/
def FinQ (below : List Frame) (s : State) (Q : Option Value → Heap → List Loc → Prop) (k n : Nat) (u : State) : Prop :=
  ∃ o, u.status = .running ∧ Ended u below o ∧ ∃ v L, o = .returned v ∧ Q v u.heap L ∧ FrameEnd s o u L k n
theorem Go.done {p : Program} {e : Env} {below : List Frame} {s : State} {Q : Option Value → Heap → List Loc → Prop} {k n : Nat} {S : State} (h : Go p e below (FinQ below s Q k n) S) :
    ∃ s₂ o, Steps p.tables e below S s₂ ∧ s₂.status = .running ∧ Ended s₂ below o ∧ ∃ v L, o = .returned v ∧ Q v s₂.heap L ∧ FrameEnd s o s₂ L k n := by
  obtain ⟨u, q, o, r1, r2, r3⟩ := h
  exact ⟨u, o, q, r1, r2, r3⟩
section New
variable {p : Program} {l : Launch} {e : Env} {R : Room} {s : State} {m : MethodId} {args : Array Value} {below : List Frame} {meth : Method} {c : Code} {T : State} {locs : List Loc} {cells slots : Nat}
/-- the run stands at the frame F, in a heap h -/
def AtF (p : Program) (l : Launch) (e : Env) (R : Room) (s : State) (m : MethodId) (args : Array Value) (below : List Frame) (meth : Method) (c : Code) (n0 cells slots : Nat) (h : Heap) (F : JFrame) (u : State) : Prop :=
  ∃ T' locs', u = T'.setTop F ∧ Stand p l e R s m args below meth c T' locs' cells slots ∧ Fr n0 locs' ∧ T'.heap = h
theorem retG {pc : Nat} {Ls : Array Slot} {w : Value} {t : FieldType} {i : Instr} {rest : List Value} {Q : Option Value → Heap → List Loc → Prop} {k n : Nat}
    (X : Stand p l e R s m args below meth c T locs cells slots) (hx : p.tables.exec = Jvm.exec) (hlocks : meth.locks = false) (hret : meth.sig.returnType = some t) (hn : narrow t w = w)
    (hi : (i = .ireturn ∧ (t = .int ∨ t = .boolean ∨ t = .byte ∨ t = .char ∨ t = .short) ∧ ∃ z, w = .int z) ∨ (i = .lreturn ∧ t = .long ∧ ∃ z, w = .long z) ∨ (i = .dreturn ∧ t = .double ∧ ∃ z, w = .double z) ∨ (i = .freturn ∧ t = .float ∧ ∃ z, w = .float z) ∨ (i = .areturn ∧ t.isReference = true ∧ w.isRef = true))
    (hd : decode c.code pc = .ok (i, 1)) (hQ : Q (some w) T.heap locs) (hc : cells ≤ k) (hs : slots ≤ n) : Go p e below (FinQ below s Q k n) (T.setTop (mkF m pc Ls (w :: rest))) := by
  obtain ⟨fs, hr, hrun, hended, hW, hsame⟩ := X.leave (v := some w) (fun h => by rw [hret] at h; cases h) hlocks
  exact ⟨_, retOut X hx hret hn hi hd hr, _, hrun, hended, _, _, rfl, hQ, ⟨_, rfl⟩, hW, hsame.mono hc hs⟩
theorem retGI {pc : Nat} {Ls : Array Slot} {z : Int32} {rest : List Value} {Q : Option Value → Heap → List Loc → Prop} {k n : Nat}
    (X : Stand p l e R s m args below meth c T locs cells slots) (hx : p.tables.exec = Jvm.exec) (hlocks : meth.locks = false) (hret : meth.sig.returnType = some .int)
    (hd : decode c.code pc = .ok (.ireturn, 1)) (hQ : Q (some (.int z)) T.heap locs) (hc : cells ≤ k) (hs : slots ≤ n) : Go p e below (FinQ below s Q k n) (T.setTop (mkF m pc Ls (.int z :: rest))) :=
  retG X hx hlocks hret rfl (Or.inl ⟨rfl, Or.inl rfl, _, rfl⟩) hd hQ hc hs
theorem retGJ {pc : Nat} {Ls : Array Slot} {z : Int64} {rest : List Value} {Q : Option Value → Heap → List Loc → Prop} {k n : Nat}
    (X : Stand p l e R s m args below meth c T locs cells slots) (hx : p.tables.exec = Jvm.exec) (hlocks : meth.locks = false) (hret : meth.sig.returnType = some .long)
    (hd : decode c.code pc = .ok (.lreturn, 1)) (hQ : Q (some (.long z)) T.heap locs) (hc : cells ≤ k) (hs : slots ≤ n) : Go p e below (FinQ below s Q k n) (T.setTop (mkF m pc Ls (.long z :: rest))) :=
  retG X hx hlocks hret rfl (Or.inr (Or.inl ⟨rfl, rfl, _, rfl⟩)) hd hQ hc hs
theorem retGR {pc : Nat} {Ls : Array Slot} {a : Addr} {t : FieldType} {rest : List Value} {Q : Option Value → Heap → List Loc → Prop} {k n : Nat}
    (X : Stand p l e R s m args below meth c T locs cells slots) (hx : p.tables.exec = Jvm.exec) (hlocks : meth.locks = false) (hret : meth.sig.returnType = some t) (ht : t.isReference = true) (hn : narrow t (.ref a) = .ref a)
    (hd : decode c.code pc = .ok (.areturn, 1)) (hQ : Q (some (.ref a)) T.heap locs) (hc : cells ≤ k) (hs : slots ≤ n) : Go p e below (FinQ below s Q k n) (T.setTop (mkF m pc Ls (.ref a :: rest))) :=
  retG X hx hlocks hret hn (Or.inr (Or.inr (Or.inr (Or.inr ⟨rfl, ht, rfl⟩)))) hd hQ hc hs
theorem retGN {pc : Nat} {Ls : Array Slot} {z z' : Int32} {t : FieldType} {rest : List Value} {Q : Option Value → Heap → List Loc → Prop} {k n : Nat}
    (X : Stand p l e R s m args below meth c T locs cells slots) (hx : p.tables.exec = Jvm.exec) (hlocks : meth.locks = false) (hret : meth.sig.returnType = some t) (ht : t = .boolean ∨ t = .byte ∨ t = .char ∨ t = .short) (hz : nar t z = z')
    (hd : decode c.code pc = .ok (.ireturn, 1)) (hQ : Q (some (.int z')) T.heap locs) (hc : cells ≤ k) (hs : slots ≤ n) : Go p e below (FinQ below s Q k n) (T.setTop (mkF m pc Ls (.int z :: rest))) := by
  subst hz
  obtain ⟨fs, hr, hrun, hended, hW, hsame⟩ := X.leave (v := some (.int (nar t z))) (fun h => by rw [hret] at h; cases h) hlocks
  exact ⟨_, retN X hx hret ht hd hr, _, hrun, hended, _, _, rfl, hQ, ⟨_, rfl⟩, hW, hsame.mono hc hs⟩
theorem retGV {pc : Nat} {Ls : Array Slot} {Q : Option Value → Heap → List Loc → Prop} {k n : Nat}
    (X : Stand p l e R s m args below meth c T locs cells slots) (hx : p.tables.exec = Jvm.exec) (hlocks : meth.locks = false) (hret : meth.sig.returnType = none)
    (hd : decode c.code pc = .ok (.return_, 1)) (hQ : Q none T.heap locs) (hc : cells ≤ k) (hs : slots ≤ n) : Go p e below (FinQ below s Q k n) (T.setTop (mkF m pc Ls [])) := by
  obtain ⟨fs, hr, hrun, hended, hW, hsame⟩ := X.leave (v := none) (fun _ => rfl) hlocks
  exact ⟨_, X.returnOut hx hret hd hr, _, hrun, hended, _, _, rfl, hQ, ⟨_, rfl⟩, hW, hsame.mono hc hs⟩
end New
/-- a body that writes nothing and returns r -/
def QP (r : Value) (h0 : Heap) (n0 : Nat) (v : Option Value) (h : Heap) (L : List Loc) : Prop := v = some r ∧ Fr n0 L ∧ h = h0
def QV (h0 : Heap) (n0 : Nat) (v : Option Value) (h : Heap) (L : List Loc) : Prop := v = none ∧ Fr n0 L ∧ h = h0
def QAI (h0 : Heap) (n0 : Nat) (v : Option Value) (h : Heap) (L : List Loc) : Prop := (∃ z : Int32, v = some (.int z)) ∧ Fr n0 L ∧ h = h0
def QAJ (h0 : Heap) (n0 : Nat) (v : Option Value) (h : Heap) (L : List Loc) : Prop := (∃ z : Int64, v = some (.long z)) ∧ Fr n0 L ∧ h = h0
/-- a law: it returns r and writes nothing old -/
def QL (r : Value) (n0 : Nat) (v : Option Value) (h : Heap) (L : List Loc) : Prop := v = some r ∧ Fr n0 L
theorem remI (x y : Int32) : x - (x / y) * y = x % y := by
  rw [← Int32.toInt_inj, Int32.toInt_sub, Int32.toInt_mul, Int32.toInt_div, Int32.toInt_mod]
  have h := Int.tmod_add_mul_tdiv x.toInt y.toInt
  have r : (x.toInt.tmod y.toInt).bmod (2 ^ 32) = x.toInt.tmod y.toInt := by
    have := Int32.toInt_bmod (x % y)
    rwa [Int32.toInt_mod] at this
  rw [← r]
  have e : ((x.toInt.tdiv y.toInt).bmod (2 ^ 32) * y.toInt).bmod (2 ^ 32) = (x.toInt.tdiv y.toInt * y.toInt).bmod (2 ^ 32) := by simp
  rw [e, Int.sub_bmod_bmod]
  congr 1
  have := Int.mul_comm (x.toInt.tdiv y.toInt) y.toInt
  omega
theorem selP {s : State} {args : Array Value} {C : String} {x y z : MethodName} (hs : (Jvm.Cond.selects C x y).before args s = true) (hyz : y.cls = z.cls) (hp : s.PrivateAt z) (hi : (Jvm.Cond.instanceMethod z).before args s = true) (hz : z.cls ≠ "java/lang/invoke/MethodHandle" ∧ z.cls ≠ "java/lang/invoke/VarHandle") : (Jvm.Cond.selects z.cls z z).before args s = true := by
  obtain ⟨c, r, m, q1, q2, q3, q4, k, hk, hki⟩ := Cond.selects_spec hs
  have hc := findClass_of_methodNamed q3
  rw [hyz] at hc
  exact selects_self_of_private hc hk hki hp hi hz
theorem addI {x y : Int32} (h1 : -2147483648 ≤ x.toInt + y.toInt) (h2 : x.toInt + y.toInt < 2147483648) : (x + y).toInt = x.toInt + y.toInt := by have := c_iadd x y; have := rng32 (x + y); omega
theorem subI {x y : Int32} (h1 : -2147483648 ≤ x.toInt - y.toInt) (h2 : x.toInt - y.toInt < 2147483648) : (x - y).toInt = x.toInt - y.toInt := by have := c_isub x y; have := rng32 (x - y); omega
theorem mulI {x y : Int32} (h1 : -2147483648 ≤ x.toInt * y.toInt) (h2 : x.toInt * y.toInt < 2147483648) : (x * y).toInt = x.toInt * y.toInt := by have := c_imul x y; have := rng32 (x * y); omega
theorem addL {x y : Int64} (h1 : -9223372036854775808 ≤ x.toInt + y.toInt) (h2 : x.toInt + y.toInt < 9223372036854775808) : (x + y).toInt = x.toInt + y.toInt := by have := c_ladd x y; have := rng64 (x + y); omega
theorem subL {x y : Int64} (h1 : -9223372036854775808 ≤ x.toInt - y.toInt) (h2 : x.toInt - y.toInt < 9223372036854775808) : (x - y).toInt = x.toInt - y.toInt := by have := c_lsub x y; have := rng64 (x - y); omega
theorem mulL {x y : Int64} (h1 : -9223372036854775808 ≤ x.toInt * y.toInt) (h2 : x.toInt * y.toInt < 9223372036854775808) : (x * y).toInt = x.toInt * y.toInt := by have := c_lmul x y; have := rng64 (x * y); omega
theorem modI {x y : Int32} (d : Int) (hy : y.toInt = d) (hx : 0 ≤ x.toInt) : (x % y).toInt = x.toInt % d := by rw [Int32.toInt_mod, hy]; exact (tr _ _).1 hx
theorem modL {x y : Int64} (d : Int) (hy : y.toInt = d) (hx : 0 ≤ x.toInt) : (x % y).toInt = x.toInt % d := by rw [Int64.toInt_mod, hy]; exact (tr _ _).1 hx
end Jvm.OwnKit
namespace Jvm.OwnKit
open Sem ClassFile Op Lib Jvm.Stand Jvm.Free Jvm.LawKit Jvm.RoadKit
/-- an array: its length and its elements, by a function -/
def Ary (Z : State) (h : Heap) (a : Addr) (ty : FieldType) (n : Nat) (f : Nat → Value) : Prop := ∃ c : Cell, Arr Z h a c ty ∧ c.slots.size = n ∧ n < 2147483648 ∧ ∀ i, i < n → c.slots[i]? = some (f i)
def upA {α : Type} (f : Nat → α) (j : Nat) (v : α) : Nat → α := fun i => if i = j then v else f i
theorem upA_same {α : Type} (f : Nat → α) (j : Nat) (v : α) : upA f j v j = v := if_pos rfl
theorem upA_ne {α : Type} (f : Nat → α) {j i : Nat} (v : α) (h : i ≠ j) : upA f j v i = f i := if_neg h
section Facts
variable {Z : State} {h h' : Heap} {a b : Addr} {ty : FieldType} {n sl : Nat} {f : Nat → Value} {v : Value} {ws : List Addr} {j : Int32}
theorem Ary.lt (F : Ary Z h a ty n f) : a < h.size := by obtain ⟨c, A, -⟩ := F; exact A.lt
theorem Ary.ext (F : Ary Z h a ty n f) (E : Ext h h') : Ary Z h' a ty n f := by obtain ⟨c, A, r⟩ := F; exact ⟨c, A.ext E, r⟩
theorem Ary.other (F : Ary Z h b ty n f) (W : Wr h h' a sl v) (q : b ≠ a) : Ary Z h' b ty n f := by obtain ⟨c, A, r⟩ := F; exact ⟨c, A.other W q, r⟩
theorem Ary.keep (F : Ary Z h a ty n f) (K : Keep h h' ws) (q : a ∉ ws) : Ary Z h' a ty n f := by obtain ⟨c, A, r⟩ := F; exact ⟨c, ⟨K.2.1 a c A.1 q, A.2⟩, r⟩
theorem Ary.set (F : Ary Z h a ty n f) (W : Wr h h' a sl v) (q : sl < n) : Ary Z h' a ty n (upA f sl v) := by
  obtain ⟨c, A, hs, hn, hf⟩ := F
  obtain ⟨c', e1, -, -, e4, -, e6, e7⟩ := wr_at W A.1
  refine ⟨c', by rw [(e7 rfl).1]; exact A.same W, e4.trans hs, hn, fun i hi => ?_⟩
  by_cases e : i = sl
  · subst e; rw [(e7 rfl).2.1, upA_same]
  · rw [e6 i e, hf i hi, upA_ne _ _ e]
theorem Ary.setI {g : Nat → Int32} {x : Int32} (F : Ary Z h a ty n (fun i => .int (g i))) (W : Wr h h' a sl (.int x)) (q : sl < n) : Ary Z h' a ty n (fun i => .int (upA g sl x i)) := by
  have e : (fun i => Value.int (upA g sl x i)) = upA (fun i => Value.int (g i)) sl (.int x) := by funext i; unfold upA; split <;> rfl
  rw [e]; exact F.set W q
theorem Ary.setJ {g : Nat → Int64} {x : Int64} (F : Ary Z h a ty n (fun i => .long (g i))) (W : Wr h h' a sl (.long x)) (q : sl < n) : Ary Z h' a ty n (fun i => .long (upA g sl x i)) := by
  have e : (fun i => Value.long (upA g sl x i)) = upA (fun i => Value.long (g i)) sl (.long x) := by funext i; unfold upA; split <;> rfl
  rw [e]; exact F.set W q
theorem Ary.congr {f' : Nat → Value} (F : Ary Z h a ty n f) (q : ∀ i, i < n → f i = f' i) : Ary Z h a ty n f' := by
  obtain ⟨c, A, hs, hn, hf⟩ := F
  exact ⟨c, A, hs, hn, fun i hi => by rw [hf i hi, q i hi]⟩
theorem Ary.hin (F : Ary Z h a ty n f) (h0 : ¬ j < 0) (hj : j.toNatClampNeg < n) : ∃ cl, Arr Z h a cl ty ∧ ¬ (j < 0 ∨ cl.slots.size ≤ j.toNatClampNeg) ∧ cl.slots[j.toNatClampNeg]? = some (f j.toNatClampNeg) := by
  obtain ⟨c, A, hs, hn, hf⟩ := F
  exact ⟨c, A, fun q => q.elim h0 (fun r => by omega), hf _ hj⟩
theorem Ary.mk {k : ClassId} {z : Int32} (A : Arr Z h a (newA k ty z) ty) (q : ¬ z < 0) (hn : z.toNatClampNeg = n) : Ary Z h a ty n (fun _ => defaultValue ty) := by
  obtain ⟨c, A', -, hs, -, H, -⟩ := Arv.new A q
  have r := rng32 z
  refine ⟨c, A', hs.trans hn, ?_, fun i hi => ?_⟩
  · rw [← hn]; have := nat_of q; omega
  · have := H i (by rw [hs, hn]; exact hi); simpa using this
end Facts
theorem clamp_nat {k : Nat} (h : k < 2147483648) : (Int32.ofNat k).toNatClampNeg = k := by
  have e : (Int32.ofNat k).toInt = k := Int32.toInt_ofNat_of_lt h
  show (Int32.ofNat k).toInt.toNat = k
  rw [e]; rfl
theorem nat32 {k : Nat} (h : k < 2147483648) : k.toInt32.toInt = k := Int32.toInt_ofNat_of_lt h
section New
variable {p : Program} {l : Launch} {e : Env} {R : Room} {s : State} {m : MethodId} {args : Array Value} {below : List Frame} {meth : Method} {c : Code} {T : State} {locs : List Loc} {cells slots : Nat} {Z : State} {h : Heap} {a : Addr} {n : Nat} {rest : List Value} {g : JFrame} {j : Int32}
theorem ldI {f : Nat → Int32} (X : Stand p l e R s m args below meth c T locs cells slots) (hx : p.tables.exec = Jvm.exec) (hZ : Z.Warmed39 s.vm) (eT : T.heap = h) (F : Ary Z h a .int n (fun i => .int (f i))) (h0 : ¬ j < 0) (hj : j.toNatClampNeg < n)
    (hg : g.method = m) (hs : g.stack = .int j :: .ref a :: rest) (hd : decode c.code g.pc = .ok (.iaload, 1)) : ∀ target, Steps p.tables e below (T.setTop { g with pc := g.pc + 1, stack := .int (f j.toNatClampNeg) :: rest }) target → Steps p.tables e below (T.setTop g) target := fun t k => by
  obtain ⟨cl, A, hin, hat⟩ := F.hin h0 hj
  exact X.iaload hx (by rw [eT]; exact A.1) (State.isArrayOf_alike hZ.alike A.2.1) A.2.2 hin hat hg hs hd t k
theorem ldJ {f : Nat → Int64} (X : Stand p l e R s m args below meth c T locs cells slots) (hx : p.tables.exec = Jvm.exec) (hZ : Z.Warmed39 s.vm) (eT : T.heap = h) (F : Ary Z h a .long n (fun i => .long (f i))) (h0 : ¬ j < 0) (hj : j.toNatClampNeg < n)
    (hg : g.method = m) (hs : g.stack = .int j :: .ref a :: rest) (hd : decode c.code g.pc = .ok (.laload, 1)) : ∀ target, Steps p.tables e below (T.setTop { g with pc := g.pc + 1, stack := .long (f j.toNatClampNeg) :: rest }) target → Steps p.tables e below (T.setTop g) target := fun t k => by
  obtain ⟨cl, A, hin, hat⟩ := F.hin h0 hj
  exact X.laload hx (by rw [eT]; exact A.1) (State.isArrayOf_alike hZ.alike A.2.1) A.2.2 hin hat hg hs hd t k
theorem ldB {f : Nat → Int32} (X : Stand p l e R s m args below meth c T locs cells slots) (hx : p.tables.exec = Jvm.exec) (hZ : Z.Warmed39 s.vm) (eT : T.heap = h) (F : Ary Z h a .byte n (fun i => .int (f i))) (h0 : ¬ j < 0) (hj : j.toNatClampNeg < n)
    (hg : g.method = m) (hs : g.stack = .int j :: .ref a :: rest) (hd : decode c.code g.pc = .ok (.baload, 1)) : ∀ target, Steps p.tables e below (T.setTop { g with pc := g.pc + 1, stack := .int (f j.toNatClampNeg) :: rest }) target → Steps p.tables e below (T.setTop g) target := fun t k => by
  obtain ⟨cl, A, hin, hat⟩ := F.hin h0 hj
  exact X.baloadBytes hx (by rw [eT]; exact A.1) (State.isArrayOf_alike hZ.alike A.2.1) A.2.2 hin hat hg hs hd t k
theorem ldC {f : Nat → Int32} (X : Stand p l e R s m args below meth c T locs cells slots) (hx : p.tables.exec = Jvm.exec) (hZ : Z.Warmed39 s.vm) (eT : T.heap = h) (F : Ary Z h a .char n (fun i => .int (f i))) (h0 : ¬ j < 0) (hj : j.toNatClampNeg < n)
    (hg : g.method = m) (hs : g.stack = .int j :: .ref a :: rest) (hd : decode c.code g.pc = .ok (.caload, 1)) : ∀ target, Steps p.tables e below (T.setTop { g with pc := g.pc + 1, stack := .int (f j.toNatClampNeg) :: rest }) target → Steps p.tables e below (T.setTop g) target := fun t k => by
  obtain ⟨cl, A, hin, hat⟩ := F.hin h0 hj
  exact X.caload hx (by rw [eT]; exact A.1) (State.isArrayOf_alike hZ.alike A.2.1) A.2.2 hin hat hg hs hd t k
theorem ldR {f : Nat → Value} {ty : FieldType} (X : Stand p l e R s m args below meth c T locs cells slots) (hx : p.tables.exec = Jvm.exec) (hZ : Z.Warmed39 s.vm) (eT : T.heap = h) (F : Ary Z h a ty n f) (hty : ty.isReference = true) (h0 : ¬ j < 0) (hj : j.toNatClampNeg < n)
    (hg : g.method = m) (hs : g.stack = .int j :: .ref a :: rest) (hd : decode c.code g.pc = .ok (.aaload, 1)) : ∀ target, Steps p.tables e below (T.setTop { g with pc := g.pc + 1, stack := f j.toNatClampNeg :: rest }) target → Steps p.tables e below (T.setTop g) target := fun t k => by
  obtain ⟨cl, A, hin, hat⟩ := F.hin h0 hj
  exact X.aaload hx (by rw [eT]; exact A.1) (State.isArrayOf_alike hZ.alike A.2.1) hty A.2.2 hin hat hg hs hd t k
theorem lenA {f : Nat → Value} {ty : FieldType} (X : Stand p l e R s m args below meth c T locs cells slots) (hx : p.tables.exec = Jvm.exec) (hZ : Z.Warmed39 s.vm) (eT : T.heap = h) (F : Ary Z h a ty n f)
    (hg : g.method = m) (hs : g.stack = .ref a :: rest) (hd : decode c.code g.pc = .ok (.arraylength, 1)) : ∀ target, Steps p.tables e below (T.setTop { g with pc := g.pc + 1, stack := .int n.toInt32 :: rest }) target → Steps p.tables e below (T.setTop g) target := fun t k => by
  obtain ⟨cl, A, hs', hn, -⟩ := F
  subst hs'
  exact X.arraylength hx (by rw [eT]; exact A.1) (State.isArrayOf_alike hZ.alike A.2.1) hg hs hd t k
theorem lenAz {f : Nat → Value} {ty : FieldType} {z : Int32} (X : Stand p l e R s m args below meth c T locs cells slots) (hx : p.tables.exec = Jvm.exec) (hZ : Z.Warmed39 s.vm) (eT : T.heap = h) (F : Ary Z h a ty n f) (hz : n.toInt32 = z)
    (hg : g.method = m) (hs : g.stack = .ref a :: rest) (hd : decode c.code g.pc = .ok (.arraylength, 1)) : ∀ target, Steps p.tables e below (T.setTop { g with pc := g.pc + 1, stack := .int z :: rest }) target → Steps p.tables e below (T.setTop g) target := fun t k => by
  subst hz
  exact lenA X hx hZ eT F hg hs hd t k
end New
theorem len32 {z : Int32} (q : ¬ z < 0) : z.toNatClampNeg.toInt32 = z := by
  have r := rng32 z
  have e := nat_of q
  apply Int32.toInt_inj.mp
  rw [nat32 (by omega)]; omega
theorem succ32 (j : Nat) : Int32.ofNat j + 1 = Int32.ofNat (j + 1) := by rw [Int32.ofNat_add]; rfl
theorem of_lt {j n : Nat} (hj : j < 2147483648) (hn : n < 2147483648) : Int32.ofNat j < n.toInt32 ↔ j < n := by
  rw [Int32.lt_iff_toInt_lt, show (Int32.ofNat j).toInt = j from Int32.toInt_ofNat_of_lt hj, nat32 hn]; omega
theorem of_nn {j : Nat} (hj : j < 2147483648) : ¬ Int32.ofNat j < 0 := by
  rw [Int32.lt_iff_toInt_lt, show (Int32.ofNat j).toInt = j from Int32.toInt_ofNat_of_lt hj, show (0 : Int32).toInt = 0 by decide]; omega
theorem Ary.len {Z : State} {h : Heap} {a : Addr} {ty : FieldType} {n : Nat} {f : Nat → Value} (F : Ary Z h a ty n f) : n < 2147483648 := by obtain ⟨c, A, hs, hn, -⟩ := F; exact hn
end Jvm.OwnKit
namespace Jvm.OwnKit
open Sem ClassFile Op Lib Jvm.Stand Jvm.Free Jvm.LawKit Jvm.RoadKit
/-- an array of references: as Ary, and its components' class is C -/
def RAry (Z : State) (h : Heap) (a : Addr) (ty : FieldType) (C : String) (n : Nat) (f : Nat → Value) : Prop := ∃ c : Cell, Arr Z h a c ty ∧ c.slots.size = n ∧ n < 2147483648 ∧ (∀ i, i < n → c.slots[i]? = some (f i)) ∧ ∃ (k : Class) (comp : ClassId) (t : FieldType), Z.vm.classes[c.cls]? = some k ∧ k.kind = .array comp t ∧ Z.vm.findClass C = some comp
section Facts
variable {Z : State} {h h' : Heap} {a b y : Addr} {ty : FieldType} {C : String} {n sl : Nat} {f : Nat → Value} {v : Value} {ws : List Addr} {j : Int32}
theorem RAry.ary (F : RAry Z h a ty C n f) : Ary Z h a ty n f := by obtain ⟨c, A, h1, h2, h3, -⟩ := F; exact ⟨c, A, h1, h2, h3⟩
theorem RAry.lt (F : RAry Z h a ty C n f) : a < h.size := by obtain ⟨c, A, -⟩ := F; exact A.lt
theorem RAry.ext (F : RAry Z h a ty C n f) (E : Ext h h') : RAry Z h' a ty C n f := by obtain ⟨c, A, r⟩ := F; exact ⟨c, A.ext E, r⟩
theorem RAry.other (F : RAry Z h b ty C n f) (W : Wr h h' a sl v) (q : b ≠ a) : RAry Z h' b ty C n f := by obtain ⟨c, A, r⟩ := F; exact ⟨c, A.other W q, r⟩
theorem RAry.keep (F : RAry Z h a ty C n f) (K : Keep h h' ws) (q : a ∉ ws) : RAry Z h' a ty C n f := by obtain ⟨c, A, r⟩ := F; exact ⟨c, ⟨K.2.1 a c A.1 q, A.2⟩, r⟩
theorem RAry.set (F : RAry Z h a ty C n f) (W : Wr h h' a sl v) (q : sl < n) : RAry Z h' a ty C n (upA f sl v) := by
  obtain ⟨c, A, hs, hn, hf, k, comp, t, h1, h2, h3⟩ := F
  obtain ⟨c', e1, e2, -, e4, -, e6, e7⟩ := wr_at W A.1
  refine ⟨c', by rw [(e7 rfl).1]; exact A.same W, e4.trans hs, hn, fun i hi => ?_, k, comp, t, by rw [e2]; exact h1, h2, h3⟩
  by_cases e : i = sl
  · subst e; rw [(e7 rfl).2.1, upA_same]
  · rw [e6 i e, hf i hi, upA_ne _ _ e]
theorem RAry.hin (F : RAry Z h a ty C n f) (h0 : ¬ j < 0) (hj : j.toNatClampNeg < n) : ∃ cl, Arr Z h a cl ty ∧ ¬ (j < 0 ∨ cl.slots.size ≤ j.toNatClampNeg) ∧ cl.slots[j.toNatClampNeg]? = some (f j.toNatClampNeg) := F.ary.hin h0 hj
theorem RAry.sto (F : RAry Z h a ty C n f) (I : Ins Z h y C true) : Sto Z h a (.ref y) := by
  obtain ⟨cl, A, hs, hn, hf, k, comp, t, o1, o2, o3⟩ := F
  obtain ⟨cv, cT, i1, i2, i3⟩ := I
  cases o3.symm.trans i2
  simp only [Bool.and_eq_true, Bool.not_eq_true'] at i3
  obtain ⟨kc, q⟩ := Vm.classAt_of_findClass o3
  obtain ⟨kv, q2⟩ := Vm.classAt_of_assignable i3.2 ⟨kc, q⟩
  exact Or.inr ⟨cl, cv, k, kv, kc, _, _, y, A.1, o1, o2, q, rfl, i1, i3.1, q2, i3.2⟩
theorem RAry.congr {f' : Nat → Value} (F : RAry Z h a ty C n f) (q : ∀ i, i < n → f i = f' i) : RAry Z h a ty C n f' := by
  obtain ⟨c, A, hs, hn, hf, r⟩ := F
  exact ⟨c, A, hs, hn, fun i hi => by rw [hf i hi, q i hi], r⟩
theorem newA_cls (k : ClassId) (ty : FieldType) (z : Int32) : (newA k ty z).cls = k := rfl
theorem RAry.mk {k : ClassId} {z : Int32} {t : FieldType} (A : Arr Z h a (newA k ty z) ty) (O : ∃ (kk : Class) (comp : ClassId), Z.vm.classes[k]? = some kk ∧ kk.kind = .array comp t ∧ Z.vm.findClass C = some comp) (q : ¬ z < 0) (hn : z.toNatClampNeg = n) (hd : defaultValue ty = .null) : RAry Z h a ty C n (fun _ => .null) := by
  obtain ⟨kk, comp, o1, o2, o3⟩ := O
  have hs : (newA k ty z).slots.size = n := by rw [← hn]; simp [newA]
  have r := rng32 z
  refine ⟨_, A, hs, ?_, fun i hi => ?_, kk, comp, t, o1, o2, o3⟩
  · rw [← hn]; have := nat_of q; omega
  · rw [← hn] at hi; simp [newA, hd, hi]
end Facts
end Jvm.OwnKit
namespace Jvm.Pilot.@@N@@
open Jvm Jvm.ClassFile Sem Op Lib Jvm.Free Jvm.Stand Jvm.LawKit Jvm.RoadKit Jvm.OwnKit Bundle Jvm.Pilot.@@N@@.Jvm.D

def Ch (z : Int32) : Prop := nar .char z = z ∧ ¬ ((255 : Int32) < z)
theorem ch_rng {z : Int32} (h0 : 0 ≤ z.toInt) (h1 : z.toInt < 256) : Ch (z.toUInt32.toUInt16.toUInt32.toInt32) := by
  have h2 := c_i2c z
  have h3 := c_i2c (z.toUInt32.toUInt16.toUInt32.toInt32)
  refine ⟨?_, ?_⟩
  · show ((z.toUInt32.toUInt16.toUInt32.toInt32)).toUInt32.toUInt16.toUInt32.toInt32 = _
    rw [← Int32.toInt_inj]; omega
  · rw [Int32.lt_iff_toInt_lt, show (255 : Int32).toInt = 255 by decide]; omega
theorem ch_mk (p : Int32) : Ch ((p &&& (255 : Int32)).toUInt32.toUInt16.toUInt32.toInt32) := by
  have h1 := c_mask p 255 8 (by decide) (by decide)
  exact ch_rng (by omega) (by omega)
theorem ch_a (p : Int32) : Ch ((((97 : Int32) + (p &&& (1 : Int32)))).toUInt32.toUInt16.toUInt32.toInt32) := by
  have h1 := c_mask p 1 1 (by decide) (by decide)
  have h2 : ((97 : Int32) + (p &&& (1 : Int32))).toInt = 97 + (p &&& (1 : Int32)).toInt := addI (by rw [show (97 : Int32).toInt = 97 by decide]; omega) (by rw [show (97 : Int32).toInt = 97 by decide]; omega)
  exact ch_rng (by omega) (by omega)
theorem Ch.rng {z : Int32} (h : Ch z) : 0 ≤ z.toInt ∧ z.toInt < 256 := by
  have h3 := c_i2c z
  have h1 : (nar .char z).toInt = z.toInt := congrArg Int32.toInt h.1
  have h1' : z.toUInt32.toUInt16.toUInt32.toInt32.toInt = z.toInt := h1
  have h2 := h.2
  rw [Int32.lt_iff_toInt_lt, show (255 : Int32).toInt = 255 by decide] at h2
  omega
theorem by8_inj {x y : Int32} (hx : Ch x) (hy : Ch y) : nar .byte (x.toInt8.toInt32) = nar .byte (y.toInt8.toInt32) ↔ x = y := by
  constructor
  · intro h
    have hx' := hx.rng
    have hy' := hy.rng
    have h' : x.toInt8.toInt32.toInt8.toInt32 = y.toInt8.toInt32.toInt8.toInt32 := h
    have e1 := c_i2b x
    have e2 := c_i2b x.toInt8.toInt32
    have e3 := c_i2b y
    have e4 := c_i2b y.toInt8.toInt32
    rw [← Int32.toInt_inj] at h' ⊢
    omega
  · intro h; rw [h]
theorem k4 (p : Int32) (h0 : ¬ ((p &&& (3 : Int32)) = (0 : Int32))) (h1 : ¬ ((p &&& (3 : Int32)) = (1 : Int32))) (h2 : ¬ ((p &&& (3 : Int32)) = (2 : Int32))) (h3 : ¬ ((p &&& (3 : Int32)) = (3 : Int32))) : False := by
  have h := c_mask p 3 2 (by decide) (by decide)
  rw [← Int32.toInt_inj] at h0 h1 h2 h3
  rw [show (0 : Int32).toInt = 0 by decide] at h0
  rw [show (1 : Int32).toInt = 1 by decide] at h1
  rw [show (2 : Int32).toInt = 2 by decide] at h2
  rw [show (3 : Int32).toInt = 3 by decide] at h3
  omega

theorem d2_0 : decode jdk_43_method_3_code 0 = .ok (.iload_n 0, 1) := by decide +kernel
theorem d2_1 : decode jdk_43_method_3_code 1 = .ok (.sipush 255, 3) := by decide +kernel
theorem d2_4 : decode jdk_43_method_3_code 4 = .ok (.if_icmp .gt 7, 3) := by decide +kernel
theorem d2_11 : decode jdk_43_method_3_code 11 = .ok (.iconst 0, 1) := by decide +kernel
theorem d2_12 : decode jdk_43_method_3_code 12 = .ok (.ireturn, 1) := by decide +kernel
theorem d2_7 : decode jdk_43_method_3_code 7 = .ok (.iconst 1, 1) := by decide +kernel
theorem d2_8 : decode jdk_43_method_3_code 8 = .ok (.goto 4, 3) := by decide +kernel
theorem ef_2 (m : MethodId) (p1 : Int32) : entryFrame m #[(.int p1)] 1 = mkF m 0 #[.val (.int p1)] [] := by first | (simp [entryFrame, mkF, argsToLocals, Value.category]; done) | rfl
theorem pn_0 : plainName "java/lang/StringLatin1" = true := by first | (simp [plainName, overriddenIn]; done) | decide +kernel
def f2 (p1 : Int32) : Int32 := (if (255 : Int32) < p1 then (0 : Int32) else (1 : Int32))
set_option maxRecDepth 65536 in
set_option maxHeartbeats 40000000 in
theorem rm2 (l : Launch) (Z : State) (a0 : Array Value) (hw : ∀ d ∈ tables_1, d.before a0 Z = true) (ws : List Jvm.Cond) (p1 : Int32) (h0 : Heap) (n0 : Nat) (Z0 : n0 ≤ h0.size) :
    MetFree l (⟨"java/lang/StringLatin1", "canEncode", "(C)Z"⟩ : MethodName) (head1 (Jvm.Cond.code (⟨"java/lang/StringLatin1", "canEncode", "(C)Z"⟩ : MethodName) jdk_43_method_3_code 1 (some .boolean) :: ws) ({ frames := 0, cells := 0, slots := 0, locals := 0 } : Room)) (fun a U => a = #[(.int p1)] ∧ Z.Warmed39 U.vm ∧ U.heap = h0) (fun _ _ _ _ _ => True) (fun _ U o U' => ∃ v L, o = .returned v ∧ QP (.int (f2 p1)) h0 n0 v U'.heap L ∧ FrameEnd U o U' L ({ frames := 0, cells := 0, slots := 0, locals := 0 } : Room).cells ({ frames := 0, cells := 0, slots := 0, locals := 0 } : Room).slots) := by
  refine MetFree.of_bodySF (plainFor_of_name pn_0) hisR ?_
  intro p e s m args below meth c s₁ Bd hml0 hP hK
  obtain ⟨rfl, hZ, hh⟩ := hP
  have hx := Bd.exec
  have hby := Bd.bytes
  have hml : c.maxLocals = 1 := hml0
  have hown : s.vm.findClass "java/lang/StringLatin1" = some m.cls := findClass_of_methodNamed Bd.named
  have hnm := (name_of_methodNamed Bd.named Bd.method).1
  have X0 : Stand p l e ({ frames := 0, cells := 0, slots := 0, locals := 0 } : Room) s m #[(.int p1)] below meth c s₁ [] 0 0 := Stand.of_body Bd
  have e0 : s₁.heap = h0 := by rw [← hh, Bd.state]; rfl
  have N0 := Fr.nil n0
  refine Go.done (Go.step (fun t k => castTop (ef_2 m p1) k) ?_)
  have KK0 : Keep h0 h0 [] := Keep.refl _ _
  show Go p e below _ (s₁.setTop (mkF m 0 #[.val (.int p1)] []))
  refine Go.step (fun t k => XS.iloadN X0.here hx rfl (hb hby d2_0) rfl k) ?_
  show Go p e below _ (s₁.setTop (mkF m 1 #[.val (.int p1)] [(.int p1)]))
  refine Go.step (fun t k => XS.sipush X0.here hx rfl (hb hby d2_1)  k) ?_
  show Go p e below _ (s₁.setTop (mkF m 4 #[.val (.int p1)] [(.int (255 : Int32)), (.int p1)]))
  by_cases hc2 : (255 : Int32) < p1
  · refine Go.step (fun t k => XS.icmpYes X0.here hx rfl (pc0 := 4) (pc' := 11) rfl (hb hby d2_4) rfl (tlt hc2).2.2.1 (by decide) (by decide) k) ?_
    show Go p e below _ (s₁.setTop (mkF m 11 #[.val (.int p1)] []))
    refine Go.step (fun t k => XS.iconst X0.here hx rfl (hb hby d2_11)  k) ?_
    show Go p e below _ (s₁.setTop (mkF m 12 #[.val (.int p1)] [(.int (0 : Int32))]))
    exact retGN X0 hx Bd.notSynchronized Bd.returns (t := .boolean) (by simp) (z' := (0 : Int32)) rfl (hb hby d2_12) ⟨by first | (simp only [f2, if_pos hc2]; done) | rfl | (simp [f2, if_pos hc2]; done), N0, e0⟩ (by decide) (by decide)
  · refine Go.step (fun t k => XS.icmpNo X0.here hx rfl (hb hby d2_4) rfl (flt hc2).2.2.1 k) ?_
    show Go p e below _ (s₁.setTop (mkF m 7 #[.val (.int p1)] []))
    refine Go.step (fun t k => XS.iconst X0.here hx rfl (hb hby d2_7)  k) ?_
    show Go p e below _ (s₁.setTop (mkF m 8 #[.val (.int p1)] [(.int (1 : Int32))]))
    refine Go.step (fun t k => XS.goto X0.here hx rfl (pc0 := 8) (pc' := 12) rfl (hb hby d2_8) (by decide) (by decide) k) ?_
    show Go p e below _ (s₁.setTop (mkF m 12 #[.val (.int p1)] [(.int (1 : Int32))]))
    exact retGN X0 hx Bd.notSynchronized Bd.returns (t := .boolean) (by simp) (z' := (1 : Int32)) rfl (hb hby d2_12) ⟨by first | (simp only [f2, if_neg hc2]; done) | rfl | (simp [f2, if_neg hc2]; done), N0, e0⟩ (by decide) (by decide)

theorem can_enc {z : Int32} (h : Ch z) : ¬ ((f2 z) = (0 : Int32)) := by
  simp only [f2, if_neg h.2]; decide

theorem d3_0 : decode jdk_43_method_46_code 0 = .ok (.iconst 1, 1) := by decide +kernel
theorem d3_1 : decode jdk_43_method_46_code 1 = .ok (.newarray .byte, 2) := by decide +kernel
theorem d3_3 : decode jdk_43_method_46_code 3 = .ok (.dup, 1) := by decide +kernel
theorem d3_4 : decode jdk_43_method_46_code 4 = .ok (.iconst 0, 1) := by decide +kernel
theorem d3_5 : decode jdk_43_method_46_code 5 = .ok (.iload_n 0, 1) := by decide +kernel
theorem d3_6 : decode jdk_43_method_46_code 6 = .ok (.i2b, 1) := by decide +kernel
theorem d3_7 : decode jdk_43_method_46_code 7 = .ok (.bastore, 1) := by decide +kernel
theorem d3_8 : decode jdk_43_method_46_code 8 = .ok (.areturn, 1) := by decide +kernel
theorem ef_3 (m : MethodId) (p1 : Int32) : entryFrame m #[(.int p1)] 1 = mkF m 0 #[.val (.int p1)] [] := by first | (simp [entryFrame, mkF, argsToLocals, Value.category]; done) | rfl
def Q3 (Z : State) (p1 : Int32) (h0 : Heap) (n0 : Nat) (v : Option Value) (h : Heap) (L : List Loc) : Prop := ∃ (b2 : Addr), v = some (.ref b2) ∧ Fr n0 L ∧ Keep h0 h [] ∧ h0.size ≤ b2 ∧ Ary Z h b2 .byte 1 (fun i => .int ((upA (fun _ => (0 : Int32)) 0 (nar .byte (p1.toInt8.toInt32))) i))
set_option maxRecDepth 65536 in
set_option maxHeartbeats 40000000 in
theorem rm3 (l : Launch) (Z : State) (a0 : Array Value) (hw : ∀ d ∈ tables_1, d.before a0 Z = true) (ws : List Jvm.Cond) (p1 : Int32) (h0 : Heap) (n0 : Nat) (Z0 : n0 ≤ h0.size) :
    MetFree l (⟨"java/lang/StringLatin1", "toBytes", "(C)[B"⟩ : MethodName) (head1 (Jvm.Cond.code (⟨"java/lang/StringLatin1", "toBytes", "(C)[B"⟩ : MethodName) jdk_43_method_46_code 1 (some (.array .byte)) :: ws) ({ frames := 0, cells := 1, slots := 1, locals := 0 } : Room)) (fun a U => a = #[(.int p1)] ∧ Z.Warmed39 U.vm ∧ U.heap = h0) (fun _ _ _ _ _ => True) (fun _ U o U' => ∃ v L, o = .returned v ∧ Q3 Z p1 h0 n0 v U'.heap L ∧ FrameEnd U o U' L ({ frames := 0, cells := 1, slots := 1, locals := 0 } : Room).cells ({ frames := 0, cells := 1, slots := 1, locals := 0 } : Room).slots) := by
  refine MetFree.of_bodySF (plainFor_of_name pn_0) hisR ?_
  intro p e s m args below meth c s₁ Bd hml0 hP hK
  obtain ⟨rfl, hZ, hh⟩ := hP
  have hx := Bd.exec
  have hby := Bd.bytes
  have hml : c.maxLocals = 1 := hml0
  have hown : s.vm.findClass "java/lang/StringLatin1" = some m.cls := findClass_of_methodNamed Bd.named
  have hnm := (name_of_methodNamed Bd.named Bd.method).1
  have X0 : Stand p l e ({ frames := 0, cells := 1, slots := 1, locals := 0 } : Room) s m #[(.int p1)] below meth c s₁ [] 0 0 := Stand.of_body Bd
  have e0 : s₁.heap = h0 := by rw [← hh, Bd.state]; rfl
  have N0 := Fr.nil n0
  refine Go.done (Go.step (fun t k => castTop (ef_3 m p1) k) ?_)
  have KK0 : Keep h0 h0 [] := Keep.refl _ _
  show Go p e below _ (s₁.setTop (mkF m 0 #[.val (.int p1)] []))
  refine Go.step (fun t k => XS.iconst X0.here hx rfl (hb hby d3_0)  k) ?_
  show Go p e below _ (s₁.setTop (mkF m 1 #[.val (.int p1)] [(.int (1 : Int32))]))
  obtain ⟨T2, h2, k2, X2, e2, E2, A2, st2⟩ := newP X0 hx hZ (hw _ (List.mem_of_getElem? (i := 17) rfl)) e0 (g := (mkF m 1 #[.val (.int p1)] [(.int (1 : Int32))])) rfl (hb hby d3_1) rfl (by decide) (cap := 1) (by decide) (by decide) (by decide) (by decide)
  obtain ⟨b2, g2⟩ : ∃ z, z = h0.size := ⟨_, rfl⟩
  rw [← g2] at A2 st2
  have g_b2 : n0 ≤ b2 := Nat.le_trans Z0 (Nat.le_of_eq g2.symm)
  have sz_b2 : h0.size ≤ b2 := Nat.le_trans KK0.1 (Nat.le_of_eq g2.symm)
  refine Go.step st2 ?_
  have Z2 := Nat.le_trans Z0 E2.1
  have KK2 : Keep h0 h2 [] := KK0.ext E2
  clear Z0 KK0 E2
  have A_b2_2 : Ary Z h2 b2 .byte 1 (fun i => .int ((fun _ => (0 : Int32)) i)) := Ary.mk A2 (by decide) (by decide)
  show Go p e below _ (T2.setTop (mkF m 3 #[.val (.int p1)] [(.ref b2)]))
  refine Go.step (fun t k => XS.dup X2.here hx rfl (hb hby d3_3) rfl rfl k) ?_
  show Go p e below _ (T2.setTop (mkF m 4 #[.val (.int p1)] [(.ref b2), (.ref b2)]))
  refine Go.step (fun t k => XS.iconst X2.here hx rfl (hb hby d3_4)  k) ?_
  show Go p e below _ (T2.setTop (mkF m 5 #[.val (.int p1)] [(.int (0 : Int32)), (.ref b2), (.ref b2)]))
  refine Go.step (fun t k => XS.iloadN X2.here hx rfl (hb hby d3_5) rfl k) ?_
  show Go p e below _ (T2.setTop (mkF m 6 #[.val (.int p1)] [(.int p1), (.int (0 : Int32)), (.ref b2), (.ref b2)]))
  refine Go.step (fun t k => XS.i2b X2.here hx rfl (hb hby d3_6) rfl k) ?_
  show Go p e below _ (T2.setTop (mkF m 7 #[.val (.int p1)] [(.int (p1.toInt8.toInt32)), (.int (0 : Int32)), (.ref b2), (.ref b2)]))
  obtain ⟨cl3, Ar3, in3, -⟩ := A_b2_2.hin (j := (0 : Int32)) (by decide) (by decide)
  obtain ⟨T3, h3, X3, e3, W3, st3⟩ := stB X2 hx hZ e2 Ar3 in3 (g := (mkF m 7 #[.val (.int p1)] [(.int (p1.toInt8.toInt32)), (.int (0 : Int32)), (.ref b2), (.ref b2)])) rfl rfl (hb hby d3_7)
  refine Go.step st3 ?_
  have N3 := Fr.snoc X3 N0 g_b2
  have Z3 := Nat.le_trans Z2 (Keep.of_wr W3).1
  have KK3 : Keep h0 h3 [] := KK2.wr W3 (Or.inr sz_b2)
  clear Z2 KK2
  have A_b2_3 : Ary Z h3 b2 .byte 1 (fun i => .int ((upA (fun _ => (0 : Int32)) 0 (nar .byte (p1.toInt8.toInt32))) i)) := A_b2_2.setI W3 (by decide)
  show Go p e below _ (T3.setTop (mkF m 8 #[.val (.int p1)] [(.ref b2)]))
  refine retGR X3 hx Bd.notSynchronized Bd.returns rfl rfl (hb hby d3_8) ?_ (by decide) (by decide)
  show Q3 Z p1 h0 n0 _ T3.heap _
  rw [e3]
  exact ⟨b2, rfl, N3, KK3, sz_b2, A_b2_3⟩
theorem d4_0 : decode jdk_42_method_151_code 0 = .ok (.aload_n 0, 1) := by decide +kernel
theorem d4_1 : decode jdk_42_method_151_code 1 = .ok (.invokespecial 1, 3) := by decide +kernel
theorem d4_4 : decode jdk_42_method_151_code 4 = .ok (.aload_n 0, 1) := by decide +kernel
theorem d4_5 : decode jdk_42_method_151_code 5 = .ok (.aload_n 1, 1) := by decide +kernel
theorem d4_6 : decode jdk_42_method_151_code 6 = .ok (.putfield 9, 3) := by decide +kernel
theorem d4_9 : decode jdk_42_method_151_code 9 = .ok (.aload_n 0, 1) := by decide +kernel
theorem d4_10 : decode jdk_42_method_151_code 10 = .ok (.iload_n 2, 1) := by decide +kernel
theorem d4_11 : decode jdk_42_method_151_code 11 = .ok (.putfield 15, 3) := by decide +kernel
theorem d4_14 : decode jdk_42_method_151_code 14 = .ok (.return_, 1) := by decide +kernel
theorem ef_4 (m : MethodId) (a1 : Addr) (a2 : Addr) : entryFrame m #[(.ref a1), (.ref a2), (.int (0 : Int32))] 3 = mkF m 0 #[.val (.ref a1), .val (.ref a2), .val (.int (0 : Int32))] [] := by first | (simp [entryFrame, mkF, argsToLocals, Value.category]; done) | rfl
theorem pn_1 : plainName "java/lang/String" = true := by first | (simp [plainName, overriddenIn]; done) | decide +kernel
def Q4 (Z : State) (a1 : Addr) (a2 : Addr) (u_coder_a1 : Value) (u_value_a1 : Value) (h0 : Heap) (n0 : Nat) (v : Option Value) (h : Heap) (L : List Loc) : Prop := v = none ∧ Fr n0 L ∧ Keep h0 h [a1] ∧ Fld Z h a1 "java/lang/String" "coder" "B" (.int (0 : Int32)) ∧ Exa Z h a1 "java/lang/String" ∧ Fld Z h a1 "java/lang/String" "value" "[B" (.ref a2)
set_option maxRecDepth 65536 in
set_option maxHeartbeats 40000000 in
theorem rm4 (l : Launch) (Z : State) (a0 : Array Value) (hw : ∀ d ∈ tables_1, d.before a0 Z = true) (ws : List Jvm.Cond) (a1 : Addr) (a2 : Addr) (u_coder_a1 : Value) (u_value_a1 : Value) (h0 : Heap) (n0 : Nat) (Z0 : n0 ≤ h0.size) (F_coder_a1 : Fld Z h0 a1 "java/lang/String" "coder" "B" u_coder_a1) (E_a1 : Exa Z h0 a1 "java/lang/String") (F_value_a1 : Fld Z h0 a1 "java/lang/String" "value" "[B" u_value_a1) (g_a1 : n0 ≤ a1) :
    MetFree l (⟨"java/lang/String", "<init>", "([BB)V"⟩ : MethodName) (head1 (Jvm.Cond.code (⟨"java/lang/String", "<init>", "([BB)V"⟩ : MethodName) jdk_42_method_151_code 3 none :: ws) ({ frames := 1, cells := 0, slots := 0, locals := 12 } : Room)) (fun a U => a = #[(.ref a1), (.ref a2), (.int (0 : Int32))] ∧ Z.Warmed39 U.vm ∧ U.heap = h0) (fun _ _ _ _ _ => True) (fun _ U o U' => ∃ v L, o = .returned v ∧ Q4 Z a1 a2 u_coder_a1 u_value_a1 h0 n0 v U'.heap L ∧ FrameEnd U o U' L ({ frames := 1, cells := 0, slots := 0, locals := 12 } : Room).cells ({ frames := 1, cells := 0, slots := 0, locals := 12 } : Room).slots) := by
  refine MetFree.of_bodySF (plainFor_of_name pn_1) hisR ?_
  intro p e s m args below meth c s₁ Bd hml0 hP hK
  obtain ⟨rfl, hZ, hh⟩ := hP
  have hx := Bd.exec
  have hby := Bd.bytes
  have hml : c.maxLocals = 3 := hml0
  have hown : s.vm.findClass "java/lang/String" = some m.cls := findClass_of_methodNamed Bd.named
  have hnm := (name_of_methodNamed Bd.named Bd.method).1
  have X0 : Stand p l e ({ frames := 1, cells := 0, slots := 0, locals := 12 } : Room) s m #[(.ref a1), (.ref a2), (.int (0 : Int32))] below meth c s₁ [] 0 0 := Stand.of_body Bd
  have e0 : s₁.heap = h0 := by rw [← hh, Bd.state]; rfl
  have N0 := Fr.nil n0
  refine Go.done (Go.step (fun t k => castTop (ef_4 m a1 a2) k) ?_)
  have KK0 : Keep h0 h0 [a1] := Keep.refl _ _
  show Go p e below _ (s₁.setTop (mkF m 0 #[.val (.ref a1), .val (.ref a2), .val (.int (0 : Int32))] []))
  refine Go.step (fun t k => XS.aloadN X0.here hx rfl (hb hby d4_0) rfl rfl k) ?_
  show Go p e below _ (s₁.setTop (mkF m 1 #[.val (.ref a1), .val (.ref a2), .val (.int (0 : Int32))] [(.ref a1)]))
  obtain ⟨T4, X4, e4, st4⟩ := initO X0 hx hZ hown (hw _ (List.mem_of_getElem? (i := 22) rfl)) (hw _ (List.mem_of_getElem? (i := 23) rfl)) (hw _ (List.mem_of_getElem? (i := 24) rfl)) e0 (g := (mkF m 1 #[.val (.ref a1), .val (.ref a2), .val (.int (0 : Int32))] [(.ref a1)])) rfl (by rw [hml]; rfl) rfl (hb hby d4_1) (by decide) (W := 0) (by show 2 * 0 + _ ≤ _; exact Nat.le_of_eq rfl) (by decide)
  refine Go.step st4 ?_
  show Go p e below _ (T4.setTop (mkF m 4 #[.val (.ref a1), .val (.ref a2), .val (.int (0 : Int32))] []))
  refine Go.step (fun t k => XS.aloadN X4.here hx rfl (hb hby d4_4) rfl rfl k) ?_
  show Go p e below _ (T4.setTop (mkF m 5 #[.val (.ref a1), .val (.ref a2), .val (.int (0 : Int32))] [(.ref a1)]))
  refine Go.step (fun t k => XS.aloadN X4.here hx rfl (hb hby d4_5) rfl rfl k) ?_
  show Go p e below _ (T4.setTop (mkF m 6 #[.val (.ref a1), .val (.ref a2), .val (.int (0 : Int32))] [(.ref a2), (.ref a1)]))
  obtain ⟨T5, h5, X5, e5, W5, st5⟩ := putF X4 hx hZ hown (host := "") (Or.inl (hw _ (List.mem_of_getElem? (i := 25) rfl))) Via.refl e4 F_value_a1 E_a1 (Or.inr ⟨(hw _ (List.mem_of_getElem? (i := 26) rfl)), rfl, hnm⟩) (hw _ (List.mem_of_getElem? (i := 13) rfl)) (ty := (.array .byte)) (by decide) rfl rfl (g := (mkF m 6 #[.val (.ref a1), .val (.ref a2), .val (.int (0 : Int32))] [(.ref a2), (.ref a1)])) rfl rfl (hb hby d4_6)
  refine Go.step st5 ?_
  have N5 := Fr.snoc X5 N0 g_a1
  have F_coder_a1_5 := F_coder_a1.other W5 (Or.inr (slot_ne (Or.inr (hw _ (List.mem_of_getElem? (i := 28) rfl))) (Or.inr (hw _ (List.mem_of_getElem? (i := 26) rfl))) (by decide) (t := .byte) (t' := (.array .byte)) (by decide) (by decide)))
  have E_a1_5 := E_a1.wr W5
  have Z5 := Nat.le_trans Z0 (Keep.of_wr W5).1
  have KK5 : Keep h0 h5 [a1] := KK0.wr W5 (Or.inl (by simp))
  clear F_coder_a1 E_a1 Z0 KK0
  have F_value_a1_5 := F_value_a1.same W5
  show Go p e below _ (T5.setTop (mkF m 9 #[.val (.ref a1), .val (.ref a2), .val (.int (0 : Int32))] []))
  refine Go.step (fun t k => XS.aloadN X5.here hx rfl (hb hby d4_9) rfl rfl k) ?_
  show Go p e below _ (T5.setTop (mkF m 10 #[.val (.ref a1), .val (.ref a2), .val (.int (0 : Int32))] [(.ref a1)]))
  refine Go.step (fun t k => XS.iloadN X5.here hx rfl (hb hby d4_10) rfl k) ?_
  show Go p e below _ (T5.setTop (mkF m 11 #[.val (.ref a1), .val (.ref a2), .val (.int (0 : Int32))] [(.int (0 : Int32)), (.ref a1)]))
  obtain ⟨T6, h6, X6, e6, W6, st6⟩ := putFN X5 hx hZ hown (hw _ (List.mem_of_getElem? (i := 27) rfl)) Via.refl e5 F_coder_a1_5 E_a1_5 (Or.inr ⟨(hw _ (List.mem_of_getElem? (i := 28) rfl)), rfl, hnm⟩) (hw _ (List.mem_of_getElem? (i := 13) rfl)) (ty := .byte) (v' := .int (0 : Int32)) (by decide) rfl (by decide) (g := (mkF m 11 #[.val (.ref a1), .val (.ref a2), .val (.int (0 : Int32))] [(.int (0 : Int32)), (.ref a1)])) rfl rfl (hb hby d4_11)
  refine Go.step st6 ?_
  have N6 := Fr.snoc X6 N5 g_a1
  have E_a1_6 := E_a1_5.wr W6
  have F_value_a1_6 := F_value_a1_5.other W6 (Or.inr (slot_ne (Or.inr (hw _ (List.mem_of_getElem? (i := 26) rfl))) (Or.inr (hw _ (List.mem_of_getElem? (i := 28) rfl))) (by decide) (t := (.array .byte)) (t' := .byte) (by decide) (by decide)))
  have Z6 := Nat.le_trans Z5 (Keep.of_wr W6).1
  have KK6 : Keep h0 h6 [a1] := KK5.wr W6 (Or.inl (by simp))
  clear E_a1_5 F_value_a1_5 Z5 KK5
  have F_coder_a1_6 := F_coder_a1_5.same W6
  show Go p e below _ (T6.setTop (mkF m 14 #[.val (.ref a1), .val (.ref a2), .val (.int (0 : Int32))] []))
  refine retGV X6 hx Bd.notSynchronized Bd.returns (hb hby d4_14) ?_ (by decide) (by decide)
  show Q4 Z a1 a2 u_coder_a1 u_value_a1 h0 n0 _ T6.heap _
  rw [e6]
  exact ⟨rfl, N6, KK6, F_coder_a1_6, E_a1_6, F_value_a1_6⟩
theorem d1_0 : decode jdk_42_method_139_code 0 = .ok (.getstatic 38, 3) := by decide +kernel
theorem d1_3 : decode jdk_42_method_139_code 3 = .ok (.ifCond .eq 23, 3) := by decide +kernel
theorem d1_6 : decode jdk_42_method_139_code 6 = .ok (.iload_n 0, 1) := by decide +kernel
theorem d1_7 : decode jdk_42_method_139_code 7 = .ok (.invokestatic 1015, 3) := by decide +kernel
theorem pd_0 : parseMethodDescriptor "(C)Z" = some ⟨[.char], some .boolean⟩ := by decide +kernel
theorem d1_10 : decode jdk_42_method_139_code 10 = .ok (.ifCond .eq 16, 3) := by decide +kernel
theorem d1_13 : decode jdk_42_method_139_code 13 = .ok (.new 10, 3) := by decide +kernel
theorem d1_16 : decode jdk_42_method_139_code 16 = .ok (.dup, 1) := by decide +kernel
theorem d1_17 : decode jdk_42_method_139_code 17 = .ok (.iload_n 0, 1) := by decide +kernel
theorem d1_18 : decode jdk_42_method_139_code 18 = .ok (.invokestatic 1018, 3) := by decide +kernel
theorem pd_1 : parseMethodDescriptor "(C)[B" = some ⟨[.char], some (.array .byte)⟩ := by decide +kernel
theorem d1_21 : decode jdk_42_method_139_code 21 = .ok (.iconst 0, 1) := by decide +kernel
theorem d1_22 : decode jdk_42_method_139_code 22 = .ok (.invokespecial 209, 3) := by decide +kernel
theorem pd_2 : parseMethodDescriptor "([BB)V" = some ⟨[(.array .byte), .byte], none⟩ := by decide +kernel
theorem d1_25 : decode jdk_42_method_139_code 25 = .ok (.areturn, 1) := by decide +kernel
theorem ef_1 (m : MethodId) (p1 : Int32) : entryFrame m #[(.int p1)] 1 = mkF m 0 #[.val (.int p1)] [] := by first | (simp [entryFrame, mkF, argsToLocals, Value.category]; done) | rfl
def Q1 (Z : State) (p1 : Int32) (wC : Int32) (h0 : Heap) (n0 : Nat) (v : Option Value) (h : Heap) (L : List Loc) : Prop := ∃ (b4 : Addr) (b5_0 : Addr), v = some (.ref b4) ∧ Fr n0 L ∧ Keep h0 h [] ∧ h0.size ≤ b4 ∧ h0.size ≤ b5_0 ∧ Exa Z h b4 "java/lang/String" ∧ Ary Z h b5_0 .byte 1 (fun i => .int ((upA (fun _ => (0 : Int32)) 0 (nar .byte (p1.toInt8.toInt32))) i)) ∧ Fld Z h b4 "java/lang/String" "coder" "B" (.int (0 : Int32)) ∧ Fld Z h b4 "java/lang/String" "value" "[B" (.ref b5_0)
set_option maxRecDepth 65536 in
set_option maxHeartbeats 40000000 in
theorem rm1 (l : Launch) (Z : State) (a0 : Array Value) (hw : ∀ d ∈ tables_1, d.before a0 Z = true) (ws : List Jvm.Cond) (p1 : Int32) (wC : Int32) (h0 : Heap) (n0 : Nat) (Z0 : n0 ≤ h0.size) (hC : ¬ (wC = (0 : Int32))) (S_COMPACT_STRINGS : Sta Z Z.heap "java/lang/String" "COMPACT_STRINGS" "Z" (.int wC)) (hO : Old Z n0 h0) (hp10 : ¬ ((f2 p1) = (0 : Int32))) :
    MetFree l (⟨"java/lang/String", "valueOf", "(C)Ljava/lang/String;"⟩ : MethodName) (head1 (Jvm.Cond.code (⟨"java/lang/String", "valueOf", "(C)Ljava/lang/String;"⟩ : MethodName) jdk_42_method_139_code 1 (some (.object "java/lang/String")) :: ws) ({ frames := 2, cells := 2, slots := 5, locals := 27 } : Room)) (fun a U => a = #[(.int p1)] ∧ Z.Warmed39 U.vm ∧ U.heap = h0) (fun _ _ _ _ _ => True) (fun _ U o U' => ∃ v L, o = .returned v ∧ Q1 Z p1 wC h0 n0 v U'.heap L ∧ FrameEnd U o U' L ({ frames := 2, cells := 2, slots := 5, locals := 27 } : Room).cells ({ frames := 2, cells := 2, slots := 5, locals := 27 } : Room).slots) := by
  refine MetFree.of_bodySF (plainFor_of_name pn_1) hisR ?_
  intro p e s m args below meth c s₁ Bd hml0 hP hK
  obtain ⟨rfl, hZ, hh⟩ := hP
  have hx := Bd.exec
  have hby := Bd.bytes
  have hml : c.maxLocals = 1 := hml0
  have hown : s.vm.findClass "java/lang/String" = some m.cls := findClass_of_methodNamed Bd.named
  have hnm := (name_of_methodNamed Bd.named Bd.method).1
  have X0 : Stand p l e ({ frames := 2, cells := 2, slots := 5, locals := 27 } : Room) s m #[(.int p1)] below meth c s₁ [] 0 0 := Stand.of_body Bd
  have e0 : s₁.heap = h0 := by rw [← hh, Bd.state]; rfl
  have N0 := Fr.nil n0
  refine Go.done (Go.step (fun t k => castTop (ef_1 m p1) k) ?_)
  have KK0 : Keep h0 h0 [] := Keep.refl _ _
  show Go p e below _ (s₁.setTop (mkF m 0 #[.val (.int p1)] []))
  obtain ⟨T2, X2, e2, st2⟩ := getS2 X0 hx hZ hown (host := "") (Or.inl (hw _ (List.mem_of_getElem? (i := 7) rfl))) Via.refl e0 (S_COMPACT_STRINGS.ext hO.2) (g := (mkF m 0 #[.val (.int p1)] [])) rfl (hb hby d1_0)
  refine Go.step st2 ?_
  show Go p e below _ (T2.setTop (mkF m 3 #[.val (.int p1)] [(.int wC)]))
  refine Go.step (fun t k => XS.ifNo X2.here hx rfl (hb hby d1_3) rfl ((if0 _ _).trans (feq (hC : ¬ (wC = (0 : Int32)))).1) k) ?_
  show Go p e below _ (T2.setTop (mkF m 6 #[.val (.int p1)] []))
  refine Go.step (fun t k => XS.iloadN X2.here hx rfl (hb hby d1_6) rfl k) ?_
  show Go p e below _ (T2.setTop (mkF m 7 #[.val (.int p1)] [(.int p1)]))
  obtain ⟨_, _, ⟨T3, L3, k3, n3⟩, -, X3, ⟨Lc3, hQ3, l3, y3, z3⟩, st3⟩ := Jvm.LawKit.callS X2 hx (y := (⟨"java/lang/StringLatin1", "canEncode", "(C)Z"⟩ : MethodName)) hown (mvT hZ (hw _ (List.mem_of_getElem? (i := 8) rfl))) (mvT hZ (hw _ (List.mem_of_getElem? (i := 9) rfl))) (mvT hZ (hw _ (List.mem_of_getElem? (i := 10) rfl))) (mvT hZ (hw _ (List.mem_of_getElem? (i := 11) rfl))) (by decide) (backOf (W := 0) (rm2 l Z a0 hw [] p1 h0 n0 Z0) hZ (hw _ (List.mem_of_getElem? (i := 11) rfl)) (hw _ (List.mem_of_getElem? (i := 10) rfl)) (by decide) (by decide)) (g := (mkF m 7 #[.val (.int p1)] [(.int p1)])) rfl (by rw [hml]; rfl) (argsL := [(.int p1)]) (rest := []) (lenOf pd_0 rfl) rfl (by show 2 * 0 + _ ≤ _; exact Nat.le_of_eq rfl) (hb hby d1_7) (fun _ _ => ⟨rfl, e2, (by decide : 0 + 0 ≤ _), (by decide : 0 + 0 ≤ _)⟩)
  dsimp only [Pt.U, Pt.locs, Pt.cells, Pt.slots] at X3 l3 y3 z3 st3 hQ3
  subst l3 y3 z3
  obtain ⟨rfl, N3q, e3⟩ := hQ3
  have N3 := Fr.app N0 N3q
  refine Go.step st3 ?_
  show Go p e below _ (T3.setTop (mkF m 10 #[.val (.int p1)] [(.int (f2 p1))]))
  refine Go.step (fun t k => XS.ifNo X3.here hx rfl (hb hby d1_10) rfl ((if0 _ _).trans (feq hp10).1) k) ?_
  show Go p e below _ (T3.setTop (mkF m 13 #[.val (.int p1)] []))
  obtain ⟨T4, h4, X4, e4, E4, A4, D4, -, st4⟩ := newO X3 hx hZ hown (hw _ (List.mem_of_getElem? (i := 12) rfl)) (hw _ (List.mem_of_getElem? (i := 13) rfl)) (hw _ (List.mem_of_getElem? (i := 5) rfl)) e3 (g := (mkF m 13 #[.val (.int p1)] [])) rfl (hb hby d1_13) (by decide) (by decide)
  obtain ⟨b4, g4⟩ : ∃ z, z = h0.size := ⟨_, rfl⟩
  rw [← g4] at A4 D4 st4
  have g_b4 : n0 ≤ b4 := Nat.le_trans Z0 (Nat.le_of_eq g4.symm)
  have sz_b4 : h0.size ≤ b4 := Nat.le_trans KK0.1 (Nat.le_of_eq g4.symm)
  refine Go.step st4 ?_
  have O4 := hO.ext E4
  have Z4 := Nat.le_trans Z0 E4.1
  have KK4 : Keep h0 h4 [] := KK0.ext E4
  clear hO Z0 KK0 E4
  have F_value_b4 : Fld Z h4 b4 "java/lang/String" "value" "[B" .null := D4 (Or.inr (hw _ (List.mem_of_getElem? (i := 26) rfl))) (ty := (.array .byte)) (by decide)
  have F_coder_b4 : Fld Z h4 b4 "java/lang/String" "coder" "B" (.int (0 : Int32)) := D4 (Or.inr (hw _ (List.mem_of_getElem? (i := 28) rfl))) (ty := .byte) (by decide)
  show Go p e below _ (T4.setTop (mkF m 16 #[.val (.int p1)] [(.ref b4)]))
  refine Go.step (fun t k => XS.dup X4.here hx rfl (hb hby d1_16) rfl rfl k) ?_
  show Go p e below _ (T4.setTop (mkF m 17 #[.val (.int p1)] [(.ref b4), (.ref b4)]))
  refine Go.step (fun t k => XS.iloadN X4.here hx rfl (hb hby d1_17) rfl k) ?_
  show Go p e below _ (T4.setTop (mkF m 18 #[.val (.int p1)] [(.int p1), (.ref b4), (.ref b4)]))
  obtain ⟨_, _, ⟨T5, L5, k5, n5⟩, -, X5, ⟨Lc5, hQ5, l5, y5, z5⟩, st5⟩ := Jvm.LawKit.callS X4 hx (y := (⟨"java/lang/StringLatin1", "toBytes", "(C)[B"⟩ : MethodName)) hown (mvT hZ (hw _ (List.mem_of_getElem? (i := 14) rfl))) (mvT hZ (hw _ (List.mem_of_getElem? (i := 15) rfl))) (mvT hZ (hw _ (List.mem_of_getElem? (i := 10) rfl))) (mvT hZ (hw _ (List.mem_of_getElem? (i := 16) rfl))) (by decide) (backOf (W := 2) (rm3 l Z a0 hw [] p1 h4 n0 Z4) hZ (hw _ (List.mem_of_getElem? (i := 16) rfl)) (hw _ (List.mem_of_getElem? (i := 10) rfl)) (by decide) (by decide)) (g := (mkF m 18 #[.val (.int p1)] [(.int p1), (.ref b4), (.ref b4)])) rfl (by rw [hml]; rfl) (argsL := [(.int p1)]) (rest := [(.ref b4), (.ref b4)]) (lenOf pd_1 rfl) rfl (by show 2 * 0 + _ ≤ _; exact Nat.le_of_eq rfl) (hb hby d1_18) (fun _ _ => ⟨rfl, e4, (by decide : 1 + 1 ≤ _), (by decide : 4 + 1 ≤ _)⟩)
  dsimp only [Pt.U, Pt.locs, Pt.cells, Pt.slots] at X5 l5 y5 z5 st5 hQ5
  subst l5 y5 z5
  obtain ⟨b5_0, rfl, N5q, K5, sz5_0, Q5_0⟩ := hQ5
  have N5 := Fr.app N3 N5q
  have g_b5_0 : n0 ≤ b5_0 := Nat.le_trans Z4 sz5_0
  have sz_b5_0 : h0.size ≤ b5_0 := Nat.le_trans KK4.1 sz5_0
  have ne_b4_b5_0 : b4 ≠ b5_0 := Nat.ne_of_lt (Nat.lt_of_lt_of_le A4.lt sz5_0)
  have E_b4_5 := A4.keep K5
  have F_value_b4_5 := F_value_b4.keep K5 nin0
  have F_coder_b4_5 := F_coder_b4.keep K5 nin0
  have O5 := O4.keep K5 all0
  have Z5 := Nat.le_trans Z4 K5.1
  have KK5 : Keep h0 T5.heap [] := KK4.trans K5 all0
  clear A4 F_value_b4 F_coder_b4 O4 Z4 KK4 K5
  refine Go.step st5 ?_
  show Go p e below _ (T5.setTop (mkF m 21 #[.val (.int p1)] [(.ref b5_0), (.ref b4), (.ref b4)]))
  refine Go.step (fun t k => XS.iconst X5.here hx rfl (hb hby d1_21)  k) ?_
  show Go p e below _ (T5.setTop (mkF m 22 #[.val (.int p1)] [(.int (0 : Int32)), (.ref b5_0), (.ref b4), (.ref b4)]))
  obtain ⟨_, _, ⟨T6, L6, k6, n6⟩, -, X6, ⟨Lc6, hQ6, l6, y6, z6⟩, st6⟩ := X5.specialBack hx (y := (⟨"java/lang/String", "<init>", "([BB)V"⟩ : MethodName)) rfl hown (mvT hZ (hw _ (List.mem_of_getElem? (i := 18) rfl))) (mvT hZ (hw _ (List.mem_of_getElem? (i := 19) rfl))) (mvT hZ (hw _ (List.mem_of_getElem? (i := 21) rfl))) (by decide) (backOf (W := 1) (rm4 l Z a0 hw [] b4 b5_0 (.int (0 : Int32)) .null T5.heap n0 Z5 F_coder_b4_5 E_b4_5 F_value_b4_5 g_b4) hZ (hw _ (List.mem_of_getElem? (i := 21) rfl)) (hw _ (List.mem_of_getElem? (i := 5) rfl)) (by decide) (by decide)) (g := (mkF m 22 #[.val (.int p1)] [(.int (0 : Int32)), (.ref b5_0), (.ref b4), (.ref b4)])) rfl (by rw [hml]; rfl) (Steps.refl _) (a := b4) (argsL := [(.ref b5_0), (.int (0 : Int32))]) (rest := [(.ref b4)]) (lenOf pd_2 rfl) rfl (by show 2 * 0 + _ ≤ _; exact Nat.le_of_eq rfl) (hb hby d1_22) (fun _ _ => ⟨rfl, rfl, (by decide : 2 + 0 ≤ _), (by decide : 5 + 0 ≤ _)⟩)
  dsimp only [Pt.U, Pt.locs, Pt.cells, Pt.slots] at X6 l6 y6 z6 st6 hQ6
  subst l6 y6 z6
  obtain ⟨rfl, N6q, K6, Q6_0, Q6_1, Q6_2⟩ := hQ6
  have N6 := Fr.app N5 N6q
  have E_b4_6 := E_b4_5.keep K6
  have A_b5_0_6 := Q5_0.keep K6 (ninS (Ne.symm ne_b4_b5_0) nin0)
  have O6 := O5.keep K6 (allS g_b4 all0)
  have Z6 := Nat.le_trans Z5 K6.1
  have KK6 : Keep h0 T6.heap [] := KK5.trans K6 (allS (Or.inr sz_b4) all0)
  clear E_b4_5 Q5_0 O5 Z5 KK5 K6
  refine Go.trans st6 ?_
  show Go p e below _ (T6.setTop (mkF m 25 #[.val (.int p1)] [(.ref b4)]))
  refine retGR X6 hx Bd.notSynchronized Bd.returns rfl rfl (hb hby d1_25) ?_ (by decide) (by decide)
  show Q1 Z p1 wC h0 n0 _ T6.heap _
  exact ⟨b4, b5_0, rfl, N6, KK6, sz_b4, sz_b5_0, Q6_1, A_b5_0_6, Q6_0, Q6_2⟩
theorem d9_0 : decode jdk_22_method_1_code 0 = .ok (.aload_n 0, 1) := by decide +kernel
theorem d9_1 : decode jdk_22_method_1_code 1 = .ok (.invokespecial 1, 3) := by decide +kernel
theorem d9_4 : decode jdk_22_method_1_code 4 = .ok (.return_, 1) := by decide +kernel
theorem ef_9 (m : MethodId) (a1 : Addr) : entryFrame m #[(.ref a1)] 1 = mkF m 0 #[.val (.ref a1)] [] := by first | (simp [entryFrame, mkF, argsToLocals, Value.category]; done) | rfl
theorem pn_2 : plainName "java/util/AbstractCollection" = true := by first | (simp [plainName, overriddenIn]; done) | decide +kernel
set_option maxRecDepth 65536 in
set_option maxHeartbeats 40000000 in
theorem rm9 (l : Launch) (Z : State) (a0 : Array Value) (hw : ∀ d ∈ tables_1, d.before a0 Z = true) (ws : List Jvm.Cond) (a1 : Addr) (h0 : Heap) (n0 : Nat) (Z0 : n0 ≤ h0.size) :
    MetFree l (⟨"java/util/AbstractCollection", "<init>", "()V"⟩ : MethodName) (head1 (Jvm.Cond.code (⟨"java/util/AbstractCollection", "<init>", "()V"⟩ : MethodName) jdk_22_method_1_code 1 none :: ws) ({ frames := 1, cells := 0, slots := 0, locals := 12 } : Room)) (fun a U => a = #[(.ref a1)] ∧ Z.Warmed39 U.vm ∧ U.heap = h0) (fun _ _ _ _ _ => True) (fun _ U o U' => ∃ v L, o = .returned v ∧ QV h0 n0 v U'.heap L ∧ FrameEnd U o U' L ({ frames := 1, cells := 0, slots := 0, locals := 12 } : Room).cells ({ frames := 1, cells := 0, slots := 0, locals := 12 } : Room).slots) := by
  refine MetFree.of_bodySF (plainFor_of_name pn_2) hisR ?_
  intro p e s m args below meth c s₁ Bd hml0 hP hK
  obtain ⟨rfl, hZ, hh⟩ := hP
  have hx := Bd.exec
  have hby := Bd.bytes
  have hml : c.maxLocals = 1 := hml0
  have hown : s.vm.findClass "java/util/AbstractCollection" = some m.cls := findClass_of_methodNamed Bd.named
  have hnm := (name_of_methodNamed Bd.named Bd.method).1
  have X0 : Stand p l e ({ frames := 1, cells := 0, slots := 0, locals := 12 } : Room) s m #[(.ref a1)] below meth c s₁ [] 0 0 := Stand.of_body Bd
  have e0 : s₁.heap = h0 := by rw [← hh, Bd.state]; rfl
  have N0 := Fr.nil n0
  refine Go.done (Go.step (fun t k => castTop (ef_9 m a1) k) ?_)
  have KK0 : Keep h0 h0 [] := Keep.refl _ _
  show Go p e below _ (s₁.setTop (mkF m 0 #[.val (.ref a1)] []))
  refine Go.step (fun t k => XS.aloadN X0.here hx rfl (hb hby d9_0) rfl rfl k) ?_
  show Go p e below _ (s₁.setTop (mkF m 1 #[.val (.ref a1)] [(.ref a1)]))
  obtain ⟨T2, X2, e2, st2⟩ := initO X0 hx hZ hown (hw _ (List.mem_of_getElem? (i := 51) rfl)) (hw _ (List.mem_of_getElem? (i := 23) rfl)) (hw _ (List.mem_of_getElem? (i := 24) rfl)) e0 (g := (mkF m 1 #[.val (.ref a1)] [(.ref a1)])) rfl (by rw [hml]; rfl) rfl (hb hby d9_1) (by decide) (W := 0) (by show 2 * 0 + _ ≤ _; exact Nat.le_of_eq rfl) (by decide)
  refine Go.step st2 ?_
  show Go p e below _ (T2.setTop (mkF m 4 #[.val (.ref a1)] []))
  exact retGV X2 hx Bd.notSynchronized Bd.returns (hb hby d9_4) ⟨rfl, N0, e2⟩ (by decide) (by decide)
theorem d8_0 : decode jdk_39_method_1_code 0 = .ok (.aload_n 0, 1) := by decide +kernel
theorem d8_1 : decode jdk_39_method_1_code 1 = .ok (.invokespecial 1, 3) := by decide +kernel
theorem pd_3 : parseMethodDescriptor "()V" = some ⟨[], none⟩ := by decide +kernel
theorem d8_4 : decode jdk_39_method_1_code 4 = .ok (.aload_n 0, 1) := by decide +kernel
theorem d8_5 : decode jdk_39_method_1_code 5 = .ok (.iconst 0, 1) := by decide +kernel
theorem d8_6 : decode jdk_39_method_1_code 6 = .ok (.putfield 7, 3) := by decide +kernel
theorem d8_9 : decode jdk_39_method_1_code 9 = .ok (.return_, 1) := by decide +kernel
theorem ef_8 (m : MethodId) (a1 : Addr) : entryFrame m #[(.ref a1)] 1 = mkF m 0 #[.val (.ref a1)] [] := by first | (simp [entryFrame, mkF, argsToLocals, Value.category]; done) | rfl
theorem pn_3 : plainName "java/util/AbstractList" = true := by first | (simp [plainName, overriddenIn]; done) | decide +kernel
def Q8 (Z : State) (a1 : Addr) (u_elementData_a1 : Value) (u_size_a1 : Value) (u_modCount_a1 : Value) (h0 : Heap) (n0 : Nat) (v : Option Value) (h : Heap) (L : List Loc) : Prop := v = none ∧ Fr n0 L ∧ Keep h0 h [a1] ∧ Exa Z h a1 "java/util/ArrayList" ∧ Fld Z h a1 "java/util/ArrayList" "elementData" "[Ljava/lang/Object;" u_elementData_a1 ∧ Fld Z h a1 "java/util/ArrayList" "size" "I" u_size_a1 ∧ Fld Z h a1 "java/util/AbstractList" "modCount" "I" (.int (0 : Int32))
set_option maxRecDepth 65536 in
set_option maxHeartbeats 40000000 in
theorem rm8 (l : Launch) (Z : State) (a0 : Array Value) (hw : ∀ d ∈ tables_1, d.before a0 Z = true) (ws : List Jvm.Cond) (a1 : Addr) (u_elementData_a1 : Value) (u_size_a1 : Value) (u_modCount_a1 : Value) (h0 : Heap) (n0 : Nat) (Z0 : n0 ≤ h0.size) (E_a1 : Exa Z h0 a1 "java/util/ArrayList") (F_elementData_a1 : Fld Z h0 a1 "java/util/ArrayList" "elementData" "[Ljava/lang/Object;" u_elementData_a1) (F_size_a1 : Fld Z h0 a1 "java/util/ArrayList" "size" "I" u_size_a1) (F_modCount_a1 : Fld Z h0 a1 "java/util/AbstractList" "modCount" "I" u_modCount_a1) (g_a1 : n0 ≤ a1) :
    MetFree l (⟨"java/util/AbstractList", "<init>", "()V"⟩ : MethodName) (head1 (Jvm.Cond.code (⟨"java/util/AbstractList", "<init>", "()V"⟩ : MethodName) jdk_39_method_1_code 1 none :: ws) ({ frames := 2, cells := 0, slots := 0, locals := 24 } : Room)) (fun a U => a = #[(.ref a1)] ∧ Z.Warmed39 U.vm ∧ U.heap = h0) (fun _ _ _ _ _ => True) (fun _ U o U' => ∃ v L, o = .returned v ∧ Q8 Z a1 u_elementData_a1 u_size_a1 u_modCount_a1 h0 n0 v U'.heap L ∧ FrameEnd U o U' L ({ frames := 2, cells := 0, slots := 0, locals := 24 } : Room).cells ({ frames := 2, cells := 0, slots := 0, locals := 24 } : Room).slots) := by
  refine MetFree.of_bodySF (plainFor_of_name pn_3) hisR ?_
  intro p e s m args below meth c s₁ Bd hml0 hP hK
  obtain ⟨rfl, hZ, hh⟩ := hP
  have hx := Bd.exec
  have hby := Bd.bytes
  have hml : c.maxLocals = 1 := hml0
  have hown : s.vm.findClass "java/util/AbstractList" = some m.cls := findClass_of_methodNamed Bd.named
  have hnm := (name_of_methodNamed Bd.named Bd.method).1
  have X0 : Stand p l e ({ frames := 2, cells := 0, slots := 0, locals := 24 } : Room) s m #[(.ref a1)] below meth c s₁ [] 0 0 := Stand.of_body Bd
  have e0 : s₁.heap = h0 := by rw [← hh, Bd.state]; rfl
  have N0 := Fr.nil n0
  refine Go.done (Go.step (fun t k => castTop (ef_8 m a1) k) ?_)
  have KK0 : Keep h0 h0 [a1] := Keep.refl _ _
  show Go p e below _ (s₁.setTop (mkF m 0 #[.val (.ref a1)] []))
  refine Go.step (fun t k => XS.aloadN X0.here hx rfl (hb hby d8_0) rfl rfl k) ?_
  show Go p e below _ (s₁.setTop (mkF m 1 #[.val (.ref a1)] [(.ref a1)]))
  obtain ⟨_, _, ⟨T2, L2, k2, n2⟩, -, X2, ⟨Lc2, hQ2, l2, y2, z2⟩, st2⟩ := X0.specialBack hx (y := (⟨"java/util/AbstractCollection", "<init>", "()V"⟩ : MethodName)) rfl hown (mvT hZ (hw _ (List.mem_of_getElem? (i := 45) rfl))) (mvT hZ (hw _ (List.mem_of_getElem? (i := 46) rfl))) (mvT hZ (hw _ (List.mem_of_getElem? (i := 50) rfl))) (by decide) (backOf (W := 0) (rm9 l Z a0 hw [] a1 h0 n0 Z0) hZ (hw _ (List.mem_of_getElem? (i := 50) rfl)) (hw _ (List.mem_of_getElem? (i := 49) rfl)) (by decide) (by decide)) (g := (mkF m 1 #[.val (.ref a1)] [(.ref a1)])) rfl (by rw [hml]; rfl) (Steps.refl _) (a := a1) (argsL := []) (rest := []) (lenOf pd_3 rfl) rfl (by show 2 * 0 + _ ≤ _; exact Nat.le_of_eq rfl) (hb hby d8_1) (fun _ _ => ⟨rfl, e0, (by decide : 0 + 0 ≤ _), (by decide : 0 + 0 ≤ _)⟩)
  dsimp only [Pt.U, Pt.locs, Pt.cells, Pt.slots] at X2 l2 y2 z2 st2 hQ2
  subst l2 y2 z2
  obtain ⟨rfl, N2q, e2⟩ := hQ2
  have N2 := Fr.app N0 N2q
  refine Go.trans st2 ?_
  show Go p e below _ (T2.setTop (mkF m 4 #[.val (.ref a1)] []))
  refine Go.step (fun t k => XS.aloadN X2.here hx rfl (hb hby d8_4) rfl rfl k) ?_
  show Go p e below _ (T2.setTop (mkF m 5 #[.val (.ref a1)] [(.ref a1)]))
  refine Go.step (fun t k => XS.iconst X2.here hx rfl (hb hby d8_5)  k) ?_
  show Go p e below _ (T2.setTop (mkF m 6 #[.val (.ref a1)] [(.int (0 : Int32)), (.ref a1)]))
  obtain ⟨T3, h3, X3, e3, W3, st3⟩ := putF X2 hx hZ hown (host := "") (Or.inl (hw _ (List.mem_of_getElem? (i := 52) rfl))) Via.refl e2 F_modCount_a1 E_a1 (Or.inl (hw _ (List.mem_of_getElem? (i := 53) rfl))) (hw _ (List.mem_of_getElem? (i := 34) rfl)) (ty := .int) (by decide) rfl rfl (g := (mkF m 6 #[.val (.ref a1)] [(.int (0 : Int32)), (.ref a1)])) rfl rfl (hb hby d8_6)
  refine Go.step st3 ?_
  have N3 := Fr.snoc X3 N2 g_a1
  have E_a1_3 := E_a1.wr W3
  have F_elementData_a1_3 := F_elementData_a1.other W3 (Or.inr (slot_ne (Or.inl (hw _ (List.mem_of_getElem? (i := 56) rfl))) (Or.inl (hw _ (List.mem_of_getElem? (i := 53) rfl))) (by decide) (t := (.array (.object "java/lang/Object"))) (t' := .int) (by decide) (by decide)))
  have F_size_a1_3 := F_size_a1.other W3 (Or.inr (slot_ne (Or.inl (hw _ (List.mem_of_getElem? (i := 80) rfl))) (Or.inl (hw _ (List.mem_of_getElem? (i := 53) rfl))) (by decide) (t := .int) (t' := .int) (by decide) (by decide)))
  have Z3 := Nat.le_trans Z0 (Keep.of_wr W3).1
  have KK3 : Keep h0 h3 [a1] := KK0.wr W3 (Or.inl (by simp))
  clear E_a1 F_elementData_a1 F_size_a1 Z0 KK0
  have F_modCount_a1_3 := F_modCount_a1.same W3
  show Go p e below _ (T3.setTop (mkF m 9 #[.val (.ref a1)] []))
  refine retGV X3 hx Bd.notSynchronized Bd.returns (hb hby d8_9) ?_ (by decide) (by decide)
  show Q8 Z a1 u_elementData_a1 u_size_a1 u_modCount_a1 h0 n0 _ T3.heap _
  rw [e3]
  exact ⟨rfl, N3, KK3, E_a1_3, F_elementData_a1_3, F_size_a1_3, F_modCount_a1_3⟩
theorem d7_0 : decode jdk_38_method_2_code 0 = .ok (.aload_n 0, 1) := by decide +kernel
theorem d7_1 : decode jdk_38_method_2_code 1 = .ok (.invokespecial 1, 3) := by decide +kernel
theorem d7_4 : decode jdk_38_method_2_code 4 = .ok (.aload_n 0, 1) := by decide +kernel
theorem d7_5 : decode jdk_38_method_2_code 5 = .ok (.getstatic 39, 3) := by decide +kernel
theorem d7_8 : decode jdk_38_method_2_code 8 = .ok (.putfield 9, 3) := by decide +kernel
theorem d7_11 : decode jdk_38_method_2_code 11 = .ok (.return_, 1) := by decide +kernel
theorem ef_7 (m : MethodId) (a1 : Addr) : entryFrame m #[(.ref a1)] 1 = mkF m 0 #[.val (.ref a1)] [] := by first | (simp [entryFrame, mkF, argsToLocals, Value.category]; done) | rfl
theorem pn_4 : plainName "java/util/ArrayList" = true := by first | (simp [plainName, overriddenIn]; done) | decide +kernel
def Q7 (Z : State) (a1 : Addr) (u_size_a1 : Value) (u_elementData_a1 : Value) (u_modCount_a1 : Value) (oD : Addr) (h0 : Heap) (n0 : Nat) (v : Option Value) (h : Heap) (L : List Loc) : Prop := v = none ∧ Fr n0 L ∧ Keep h0 h [a1] ∧ Exa Z h a1 "java/util/ArrayList" ∧ Fld Z h a1 "java/util/ArrayList" "elementData" "[Ljava/lang/Object;" (.ref oD) ∧ Fld Z h a1 "java/util/ArrayList" "size" "I" u_size_a1 ∧ Fld Z h a1 "java/util/AbstractList" "modCount" "I" (.int (0 : Int32))
set_option maxRecDepth 65536 in
set_option maxHeartbeats 40000000 in
theorem rm7 (l : Launch) (Z : State) (a0 : Array Value) (hw : ∀ d ∈ tables_1, d.before a0 Z = true) (ws : List Jvm.Cond) (a1 : Addr) (u_size_a1 : Value) (u_elementData_a1 : Value) (u_modCount_a1 : Value) (oD : Addr) (h0 : Heap) (n0 : Nat) (Z0 : n0 ≤ h0.size) (E_a1 : Exa Z h0 a1 "java/util/ArrayList") (F_size_a1 : Fld Z h0 a1 "java/util/ArrayList" "size" "I" u_size_a1) (hO : Old Z n0 h0) (F_elementData_a1 : Fld Z h0 a1 "java/util/ArrayList" "elementData" "[Ljava/lang/Object;" u_elementData_a1) (F_modCount_a1 : Fld Z h0 a1 "java/util/AbstractList" "modCount" "I" u_modCount_a1) (g_a1 : n0 ≤ a1) (S_DEFAULTCAPACITY_EMPTY_ELEMENTDATA : Sta Z Z.heap "java/util/ArrayList" "DEFAULTCAPACITY_EMPTY_ELEMENTDATA" "[Ljava/lang/Object;" (.ref oD)) (A_DEFAULTCAPACITY_EMPTY_ELEMENTDATA : Ary Z Z.heap oD (.object "java/lang/Object") 0 (fun _ => Value.null)) :
    MetFree l (⟨"java/util/ArrayList", "<init>", "()V"⟩ : MethodName) (head1 (Jvm.Cond.code (⟨"java/util/ArrayList", "<init>", "()V"⟩ : MethodName) jdk_38_method_2_code 1 none :: ws) ({ frames := 3, cells := 0, slots := 0, locals := 36 } : Room)) (fun a U => a = #[(.ref a1)] ∧ Z.Warmed39 U.vm ∧ U.heap = h0) (fun _ _ _ _ _ => True) (fun _ U o U' => ∃ v L, o = .returned v ∧ Q7 Z a1 u_size_a1 u_elementData_a1 u_modCount_a1 oD h0 n0 v U'.heap L ∧ FrameEnd U o U' L ({ frames := 3, cells := 0, slots := 0, locals := 36 } : Room).cells ({ frames := 3, cells := 0, slots := 0, locals := 36 } : Room).slots) := by
  refine MetFree.of_bodySF (plainFor_of_name pn_4) hisR ?_
  intro p e s m args below meth c s₁ Bd hml0 hP hK
  obtain ⟨rfl, hZ, hh⟩ := hP
  have hx := Bd.exec
  have hby := Bd.bytes
  have hml : c.maxLocals = 1 := hml0
  have hown : s.vm.findClass "java/util/ArrayList" = some m.cls := findClass_of_methodNamed Bd.named
  have hnm := (name_of_methodNamed Bd.named Bd.method).1
  have X0 : Stand p l e ({ frames := 3, cells := 0, slots := 0, locals := 36 } : Room) s m #[(.ref a1)] below meth c s₁ [] 0 0 := Stand.of_body Bd
  have e0 : s₁.heap = h0 := by rw [← hh, Bd.state]; rfl
  have N0 := Fr.nil n0
  refine Go.done (Go.step (fun t k => castTop (ef_7 m a1) k) ?_)
  have KK0 : Keep h0 h0 [a1] := Keep.refl _ _
  show Go p e below _ (s₁.setTop (mkF m 0 #[.val (.ref a1)] []))
  refine Go.step (fun t k => XS.aloadN X0.here hx rfl (hb hby d7_0) rfl rfl k) ?_
  show Go p e below _ (s₁.setTop (mkF m 1 #[.val (.ref a1)] [(.ref a1)]))
  obtain ⟨_, _, ⟨T2, L2, k2, n2⟩, -, X2, ⟨Lc2, hQ2, l2, y2, z2⟩, st2⟩ := X0.specialBack hx (y := (⟨"java/util/AbstractList", "<init>", "()V"⟩ : MethodName)) rfl hown (mvT hZ (hw _ (List.mem_of_getElem? (i := 39) rfl))) (mvT hZ (hw _ (List.mem_of_getElem? (i := 40) rfl))) (mvT hZ (hw _ (List.mem_of_getElem? (i := 44) rfl))) (by decide) (backOf (W := 0) (rm8 l Z a0 hw [] a1 u_elementData_a1 u_size_a1 u_modCount_a1 h0 n0 Z0 E_a1 F_elementData_a1 F_size_a1 F_modCount_a1 g_a1) hZ (hw _ (List.mem_of_getElem? (i := 44) rfl)) (hw _ (List.mem_of_getElem? (i := 43) rfl)) (by decide) (by decide)) (g := (mkF m 1 #[.val (.ref a1)] [(.ref a1)])) rfl (by rw [hml]; rfl) (Steps.refl _) (a := a1) (argsL := []) (rest := []) (lenOf pd_3 rfl) rfl (by show 2 * 0 + _ ≤ _; exact Nat.le_of_eq rfl) (hb hby d7_1) (fun _ _ => ⟨rfl, e0, (by decide : 0 + 0 ≤ _), (by decide : 0 + 0 ≤ _)⟩)
  dsimp only [Pt.U, Pt.locs, Pt.cells, Pt.slots] at X2 l2 y2 z2 st2 hQ2
  subst l2 y2 z2
  obtain ⟨rfl, N2q, K2, Q2_0, Q2_1, Q2_2, Q2_3⟩ := hQ2
  have N2 := Fr.app N0 N2q
  have E_a1_2 := E_a1.keep K2
  have O2 := hO.keep K2 (allS g_a1 all0)
  have Z2 := Nat.le_trans Z0 K2.1
  have KK2 : Keep h0 T2.heap [a1] := KK0.trans K2 (allS (Or.inl (by simp)) all0)
  clear E_a1 hO Z0 KK0 K2
  refine Go.trans st2 ?_
  show Go p e below _ (T2.setTop (mkF m 4 #[.val (.ref a1)] []))
  refine Go.step (fun t k => XS.aloadN X2.here hx rfl (hb hby d7_4) rfl rfl k) ?_
  show Go p e below _ (T2.setTop (mkF m 5 #[.val (.ref a1)] [(.ref a1)]))
  obtain ⟨T3, X3, e3, st3⟩ := getS2 X2 hx hZ hown (host := "") (Or.inl (hw _ (List.mem_of_getElem? (i := 54) rfl))) Via.refl rfl (S_DEFAULTCAPACITY_EMPTY_ELEMENTDATA.ext O2.2) (g := (mkF m 5 #[.val (.ref a1)] [(.ref a1)])) rfl (hb hby d7_5)
  refine Go.step st3 ?_
  show Go p e below _ (T3.setTop (mkF m 8 #[.val (.ref a1)] [(.ref oD), (.ref a1)]))
  obtain ⟨T4, h4, X4, e4, W4, st4⟩ := putF X3 hx hZ hown (host := "") (Or.inl (hw _ (List.mem_of_getElem? (i := 55) rfl))) Via.refl e3 Q2_1 Q2_0 (Or.inl (hw _ (List.mem_of_getElem? (i := 56) rfl))) (hw _ (List.mem_of_getElem? (i := 34) rfl)) (ty := (.array (.object "java/lang/Object"))) (by decide) rfl rfl (g := (mkF m 8 #[.val (.ref a1)] [(.ref oD), (.ref a1)])) rfl rfl (hb hby d7_8)
  refine Go.step st4 ?_
  have N4 := Fr.snoc X4 N2 g_a1
  have E_a1_4 := Q2_0.wr W4
  have F_size_a1_4 := Q2_2.other W4 (Or.inr (slot_ne (Or.inl (hw _ (List.mem_of_getElem? (i := 80) rfl))) (Or.inl (hw _ (List.mem_of_getElem? (i := 56) rfl))) (by decide) (t := .int) (t' := (.array (.object "java/lang/Object"))) (by decide) (by decide)))
  have F_modCount_a1_4 := Q2_3.other W4 (Or.inr (slot_ne (Or.inl (hw _ (List.mem_of_getElem? (i := 53) rfl))) (Or.inl (hw _ (List.mem_of_getElem? (i := 56) rfl))) (by decide) (t := .int) (t' := (.array (.object "java/lang/Object"))) (by decide) (by decide)))
  have O4 := O2.wr W4 g_a1
  have Z4 := Nat.le_trans Z2 (Keep.of_wr W4).1
  have KK4 : Keep h0 h4 [a1] := KK2.wr W4 (Or.inl (by simp))
  clear Q2_0 Q2_2 Q2_3 O2 Z2 KK2
  have F_elementData_a1_4 := Q2_1.same W4
  show Go p e below _ (T4.setTop (mkF m 11 #[.val (.ref a1)] []))
  refine retGV X4 hx Bd.notSynchronized Bd.returns (hb hby d7_11) ?_ (by decide) (by decide)
  show Q7 Z a1 u_size_a1 u_elementData_a1 u_modCount_a1 oD h0 n0 _ T4.heap _
  rw [e4]
  exact ⟨rfl, N4, KK4, E_a1_4, F_elementData_a1_4, F_size_a1_4, F_modCount_a1_4⟩
theorem d18_0 : decode jdk_29_method_65_code 0 = .ok (.iload_n 0, 1) := by decide +kernel
theorem d18_1 : decode jdk_29_method_65_code 1 = .ok (.iload_n 1, 1) := by decide +kernel
theorem d18_2 : decode jdk_29_method_65_code 2 = .ok (.if_icmp .lt 7, 3) := by decide +kernel
theorem d18_5 : decode jdk_29_method_65_code 5 = .ok (.iload_n 0, 1) := by decide +kernel
theorem d18_6 : decode jdk_29_method_65_code 6 = .ok (.goto 4, 3) := by decide +kernel
theorem d18_10 : decode jdk_29_method_65_code 10 = .ok (.ireturn, 1) := by decide +kernel
theorem ef_18 (m : MethodId)  : entryFrame m #[(.int (10 : Int32)), (.int (1 : Int32))] 2 = mkF m 0 #[.val (.int (10 : Int32)), .val (.int (1 : Int32))] [] := by first | (simp [entryFrame, mkF, argsToLocals, Value.category]; done) | rfl
def f18  : Int32 := (10 : Int32)
set_option maxRecDepth 65536 in
set_option maxHeartbeats 40000000 in
theorem rm18 (l : Launch) (Z : State) (a0 : Array Value) (hw : ∀ d ∈ tables_1, d.before a0 Z = true) (ws : List Jvm.Cond)  (h0 : Heap) (n0 : Nat) (Z0 : n0 ≤ h0.size) :
    MetFree l (⟨"java/lang/Math", "max", "(II)I"⟩ : MethodName) (head1 (Jvm.Cond.code (⟨"java/lang/Math", "max", "(II)I"⟩ : MethodName) jdk_29_method_65_code 2 (some .int) :: ws) ({ frames := 0, cells := 0, slots := 0, locals := 0 } : Room)) (fun a U => a = #[(.int (10 : Int32)), (.int (1 : Int32))] ∧ Z.Warmed39 U.vm ∧ U.heap = h0) (fun _ _ _ _ _ => True) (fun _ U o U' => ∃ v L, o = .returned v ∧ QP (.int (f18)) h0 n0 v U'.heap L ∧ FrameEnd U o U' L ({ frames := 0, cells := 0, slots := 0, locals := 0 } : Room).cells ({ frames := 0, cells := 0, slots := 0, locals := 0 } : Room).slots) := by
  refine MetFree.of_bodySF (Jvm.Free.JP.mathPlain rfl (by decide +kernel)) hisR ?_
  intro p e s m args below meth c s₁ Bd hml0 hP hK
  obtain ⟨rfl, hZ, hh⟩ := hP
  have hx := Bd.exec
  have hby := Bd.bytes
  have hml : c.maxLocals = 2 := hml0
  have hown : s.vm.findClass "java/lang/Math" = some m.cls := findClass_of_methodNamed Bd.named
  have hnm := (name_of_methodNamed Bd.named Bd.method).1
  have X0 : Stand p l e ({ frames := 0, cells := 0, slots := 0, locals := 0 } : Room) s m #[(.int (10 : Int32)), (.int (1 : Int32))] below meth c s₁ [] 0 0 := Stand.of_body Bd
  have e0 : s₁.heap = h0 := by rw [← hh, Bd.state]; rfl
  have N0 := Fr.nil n0
  refine Go.done (Go.step (fun t k => castTop (ef_18 m ) k) ?_)
  have KK0 : Keep h0 h0 [] := Keep.refl _ _
  show Go p e below _ (s₁.setTop (mkF m 0 #[.val (.int (10 : Int32)), .val (.int (1 : Int32))] []))
  refine Go.step (fun t k => XS.iloadN X0.here hx rfl (hb hby d18_0) rfl k) ?_
  show Go p e below _ (s₁.setTop (mkF m 1 #[.val (.int (10 : Int32)), .val (.int (1 : Int32))] [(.int (10 : Int32))]))
  refine Go.step (fun t k => XS.iloadN X0.here hx rfl (hb hby d18_1) rfl k) ?_
  show Go p e below _ (s₁.setTop (mkF m 2 #[.val (.int (10 : Int32)), .val (.int (1 : Int32))] [(.int (1 : Int32)), (.int (10 : Int32))]))
  refine Go.step (fun t k => XS.icmpNo X0.here hx rfl (hb hby d18_2) rfl (flt (by decide : ¬ ((10 : Int32) < (1 : Int32)))).1 k) ?_
  show Go p e below _ (s₁.setTop (mkF m 5 #[.val (.int (10 : Int32)), .val (.int (1 : Int32))] []))
  refine Go.step (fun t k => XS.iloadN X0.here hx rfl (hb hby d18_5) rfl k) ?_
  show Go p e below _ (s₁.setTop (mkF m 6 #[.val (.int (10 : Int32)), .val (.int (1 : Int32))] [(.int (10 : Int32))]))
  refine Go.step (fun t k => XS.goto X0.here hx rfl (pc0 := 6) (pc' := 10) rfl (hb hby d18_6) (by decide) (by decide) k) ?_
  show Go p e below _ (s₁.setTop (mkF m 10 #[.val (.int (10 : Int32)), .val (.int (1 : Int32))] [(.int (10 : Int32))]))
  exact retGI X0 hx Bd.notSynchronized Bd.returns (hb hby d18_10) ⟨by first | rfl | (simp only [f18]; done) | (simp [f18]; done), N0, e0⟩ (by decide) (by decide)
theorem d17_0 : decode jdk_38_method_6_code 0 = .ok (.aload_n 0, 1) := by decide +kernel
theorem d17_1 : decode jdk_38_method_6_code 1 = .ok (.getfield 9, 3) := by decide +kernel
theorem d17_4 : decode jdk_38_method_6_code 4 = .ok (.arraylength, 1) := by decide +kernel
theorem d17_5 : decode jdk_38_method_6_code 5 = .ok (.istore_n 2, 1) := by decide +kernel
theorem d17_6 : decode jdk_38_method_6_code 6 = .ok (.iload_n 2, 1) := by decide +kernel
theorem d17_7 : decode jdk_38_method_6_code 7 = .ok (.ifCond .gt 13, 3) := by decide +kernel
theorem d17_10 : decode jdk_38_method_6_code 10 = .ok (.aload_n 0, 1) := by decide +kernel
theorem d17_11 : decode jdk_38_method_6_code 11 = .ok (.getfield 9, 3) := by decide +kernel
theorem d17_14 : decode jdk_38_method_6_code 14 = .ok (.getstatic 39, 3) := by decide +kernel
theorem d17_17 : decode jdk_38_method_6_code 17 = .ok (.if_acmp .eq 28, 3) := by decide +kernel
theorem d17_45 : decode jdk_38_method_6_code 45 = .ok (.aload_n 0, 1) := by decide +kernel
theorem d17_46 : decode jdk_38_method_6_code 46 = .ok (.bipush 10, 2) := by decide +kernel
theorem d17_48 : decode jdk_38_method_6_code 48 = .ok (.iload_n 1, 1) := by decide +kernel
theorem d17_49 : decode jdk_38_method_6_code 49 = .ok (.invokestatic 79, 3) := by decide +kernel
theorem pd_4 : parseMethodDescriptor "(II)I" = some ⟨[.int, .int], some .int⟩ := by decide +kernel
theorem d17_52 : decode jdk_38_method_6_code 52 = .ok (.anewarray 7, 3) := by decide +kernel
theorem d17_55 : decode jdk_38_method_6_code 55 = .ok (.dup_x1, 1) := by decide +kernel
theorem d17_56 : decode jdk_38_method_6_code 56 = .ok (.putfield 9, 3) := by decide +kernel
theorem d17_59 : decode jdk_38_method_6_code 59 = .ok (.areturn, 1) := by decide +kernel
theorem ef_17 (m : MethodId) (a1 : Addr) : entryFrame m #[(.ref a1), (.int (1 : Int32))] 4 = mkF m 0 #[.val (.ref a1), .val (.int (1 : Int32)), .unset, .unset] [] := by first | (simp [entryFrame, mkF, argsToLocals, Value.category]; done) | rfl
def Q17 (Z : State) (a1 : Addr) (oD : Addr) (u_size_a1 : Value) (u_modCount_a1 : Value) (h0 : Heap) (n0 : Nat) (v : Option Value) (h : Heap) (L : List Loc) : Prop := ∃ (b7 : Addr), v = some (.ref b7) ∧ Fr n0 L ∧ Keep h0 h [a1] ∧ h0.size ≤ b7 ∧ Exa Z h a1 "java/util/ArrayList" ∧ Fld Z h a1 "java/util/ArrayList" "elementData" "[Ljava/lang/Object;" (.ref b7) ∧ Fld Z h a1 "java/util/ArrayList" "size" "I" u_size_a1 ∧ Fld Z h a1 "java/util/AbstractList" "modCount" "I" u_modCount_a1 ∧ RAry Z h b7 (.object "java/lang/Object") "java/lang/Object" 10 (fun _ => .null)
set_option maxRecDepth 65536 in
set_option maxHeartbeats 40000000 in
theorem rm17 (l : Launch) (Z : State) (a0 : Array Value) (hw : ∀ d ∈ tables_1, d.before a0 Z = true) (ws : List Jvm.Cond) (a1 : Addr) (oD : Addr) (u_size_a1 : Value) (u_modCount_a1 : Value) (h0 : Heap) (n0 : Nat) (Z0 : n0 ≤ h0.size) (E_a1 : Exa Z h0 a1 "java/util/ArrayList") (F_elementData_a1 : Fld Z h0 a1 "java/util/ArrayList" "elementData" "[Ljava/lang/Object;" (.ref oD)) (A_oD : Ary Z h0 oD (.object "java/lang/Object") 0 (fun _ => Value.null)) (F_size_a1 : Fld Z h0 a1 "java/util/ArrayList" "size" "I" u_size_a1) (F_modCount_a1 : Fld Z h0 a1 "java/util/AbstractList" "modCount" "I" u_modCount_a1) (S_DEFAULTCAPACITY_EMPTY_ELEMENTDATA : Sta Z Z.heap "java/util/ArrayList" "DEFAULTCAPACITY_EMPTY_ELEMENTDATA" "[Ljava/lang/Object;" (.ref oD)) (A_DEFAULTCAPACITY_EMPTY_ELEMENTDATA : Ary Z Z.heap oD (.object "java/lang/Object") 0 (fun _ => Value.null)) (hO : Old Z n0 h0) (g_a1 : n0 ≤ a1) :
    MetFree l (⟨"java/util/ArrayList", "grow", "(I)[Ljava/lang/Object;"⟩ : MethodName) (head1 (Jvm.Cond.code (⟨"java/util/ArrayList", "grow", "(I)[Ljava/lang/Object;"⟩ : MethodName) jdk_38_method_6_code 4 (some (.array (.object "java/lang/Object"))) :: ws) ({ frames := 1, cells := 1, slots := 10, locals := 14 } : Room)) (fun a U => a = #[(.ref a1), (.int (1 : Int32))] ∧ Z.Warmed39 U.vm ∧ U.heap = h0) (fun _ _ _ _ _ => True) (fun _ U o U' => ∃ v L, o = .returned v ∧ Q17 Z a1 oD u_size_a1 u_modCount_a1 h0 n0 v U'.heap L ∧ FrameEnd U o U' L ({ frames := 1, cells := 1, slots := 10, locals := 14 } : Room).cells ({ frames := 1, cells := 1, slots := 10, locals := 14 } : Room).slots) := by
  refine MetFree.of_bodySF (plainFor_of_name pn_4) hisR ?_
  intro p e s m args below meth c s₁ Bd hml0 hP hK
  obtain ⟨rfl, hZ, hh⟩ := hP
  have hx := Bd.exec
  have hby := Bd.bytes
  have hml : c.maxLocals = 4 := hml0
  have hown : s.vm.findClass "java/util/ArrayList" = some m.cls := findClass_of_methodNamed Bd.named
  have hnm := (name_of_methodNamed Bd.named Bd.method).1
  have X0 : Stand p l e ({ frames := 1, cells := 1, slots := 10, locals := 14 } : Room) s m #[(.ref a1), (.int (1 : Int32))] below meth c s₁ [] 0 0 := Stand.of_body Bd
  have e0 : s₁.heap = h0 := by rw [← hh, Bd.state]; rfl
  have N0 := Fr.nil n0
  refine Go.done (Go.step (fun t k => castTop (ef_17 m a1) k) ?_)
  have KK0 : Keep h0 h0 [a1] := Keep.refl _ _
  show Go p e below _ (s₁.setTop (mkF m 0 #[.val (.ref a1), .val (.int (1 : Int32)), .unset, .unset] []))
  refine Go.step (fun t k => XS.aloadN X0.here hx rfl (hb hby d17_0) rfl rfl k) ?_
  show Go p e below _ (s₁.setTop (mkF m 1 #[.val (.ref a1), .val (.int (1 : Int32)), .unset, .unset] [(.ref a1)]))
  obtain ⟨T3, X3, e3, st3⟩ := getF X0 hx hZ hown (host := "") (Or.inl (hw _ (List.mem_of_getElem? (i := 55) rfl))) Via.refl e0 F_elementData_a1 (g := (mkF m 1 #[.val (.ref a1), .val (.int (1 : Int32)), .unset, .unset] [(.ref a1)])) rfl rfl (hb hby d17_1)
  refine Go.step st3 ?_
  show Go p e below _ (T3.setTop (mkF m 4 #[.val (.ref a1), .val (.int (1 : Int32)), .unset, .unset] [(.ref oD)]))
  refine Go.step (lenA X3 hx hZ e3 A_oD (g := (mkF m 4 #[.val (.ref a1), .val (.int (1 : Int32)), .unset, .unset] [(.ref oD)])) rfl rfl (hb hby d17_4)) ?_
  show Go p e below _ (T3.setTop (mkF m 5 #[.val (.ref a1), .val (.int (1 : Int32)), .unset, .unset] [(.int (0 : Int32))]))
  refine Go.step (fun t k => XS.istoreN X3.here hx rfl (hb hby d17_5) rfl (l' := #[.val (.ref a1), .val (.int (1 : Int32)), .val (.int (0 : Int32)), .unset]) rfl k) ?_
  show Go p e below _ (T3.setTop (mkF m 6 #[.val (.ref a1), .val (.int (1 : Int32)), .val (.int (0 : Int32)), .unset] []))
  refine Go.step (fun t k => XS.iloadN X3.here hx rfl (hb hby d17_6) rfl k) ?_
  show Go p e below _ (T3.setTop (mkF m 7 #[.val (.ref a1), .val (.int (1 : Int32)), .val (.int (0 : Int32)), .unset] [(.int (0 : Int32))]))
  refine Go.step (fun t k => XS.ifNo X3.here hx rfl (hb hby d17_7) rfl ((if0 _ _).trans (flt (by decide : ¬ ((0 : Int32) < (0 : Int32)))).2.2.1) k) ?_
  show Go p e below _ (T3.setTop (mkF m 10 #[.val (.ref a1), .val (.int (1 : Int32)), .val (.int (0 : Int32)), .unset] []))
  refine Go.step (fun t k => XS.aloadN X3.here hx rfl (hb hby d17_10) rfl rfl k) ?_
  show Go p e below _ (T3.setTop (mkF m 11 #[.val (.ref a1), .val (.int (1 : Int32)), .val (.int (0 : Int32)), .unset] [(.ref a1)]))
  obtain ⟨T4, X4, e4, st4⟩ := getF X3 hx hZ hown (host := "") (Or.inl (hw _ (List.mem_of_getElem? (i := 55) rfl))) Via.refl e3 F_elementData_a1 (g := (mkF m 11 #[.val (.ref a1), .val (.int (1 : Int32)), .val (.int (0 : Int32)), .unset] [(.ref a1)])) rfl rfl (hb hby d17_11)
  refine Go.step st4 ?_
  show Go p e below _ (T4.setTop (mkF m 14 #[.val (.ref a1), .val (.int (1 : Int32)), .val (.int (0 : Int32)), .unset] [(.ref oD)]))
  obtain ⟨T5, X5, e5, st5⟩ := getS2 X4 hx hZ hown (host := "") (Or.inl (hw _ (List.mem_of_getElem? (i := 54) rfl))) Via.refl e4 (S_DEFAULTCAPACITY_EMPTY_ELEMENTDATA.ext hO.2) (g := (mkF m 14 #[.val (.ref a1), .val (.int (1 : Int32)), .val (.int (0 : Int32)), .unset] [(.ref oD)])) rfl (hb hby d17_14)
  refine Go.step st5 ?_
  show Go p e below _ (T5.setTop (mkF m 17 #[.val (.ref a1), .val (.int (1 : Int32)), .val (.int (0 : Int32)), .unset] [(.ref oD), (.ref oD)]))
  refine Go.step (fun t k => Jvm.RoadKit.acmp (g := (mkF m 17 #[.val (.ref a1), .val (.int (1 : Int32)), .val (.int (0 : Int32)), .unset] [(.ref oD), (.ref oD)])) X5 hx rfl rfl rfl (pc0 := 17) (pc' := 45) (same := true) rfl (hb hby d17_17) rfl (decide_eq_true rfl) (by decide) (by decide) k) ?_
  show Go p e below _ (T5.setTop (mkF m 45 #[.val (.ref a1), .val (.int (1 : Int32)), .val (.int (0 : Int32)), .unset] []))
  refine Go.step (fun t k => XS.aloadN X5.here hx rfl (hb hby d17_45) rfl rfl k) ?_
  show Go p e below _ (T5.setTop (mkF m 46 #[.val (.ref a1), .val (.int (1 : Int32)), .val (.int (0 : Int32)), .unset] [(.ref a1)]))
  refine Go.step (fun t k => XS.bipush X5.here hx rfl (hb hby d17_46)  k) ?_
  show Go p e below _ (T5.setTop (mkF m 48 #[.val (.ref a1), .val (.int (1 : Int32)), .val (.int (0 : Int32)), .unset] [(.int (10 : Int32)), (.ref a1)]))
  refine Go.step (fun t k => XS.iloadN X5.here hx rfl (hb hby d17_48) rfl k) ?_
  show Go p e below _ (T5.setTop (mkF m 49 #[.val (.ref a1), .val (.int (1 : Int32)), .val (.int (0 : Int32)), .unset] [(.int (1 : Int32)), (.int (10 : Int32)), (.ref a1)]))
  obtain ⟨_, _, ⟨T6, L6, k6, n6⟩, -, X6, ⟨Lc6, hQ6, l6, y6, z6⟩, st6⟩ := Jvm.LawKit.callS X5 hx (y := (⟨"java/lang/Math", "max", "(II)I"⟩ : MethodName)) hown (mvT hZ (hw _ (List.mem_of_getElem? (i := 123) rfl))) (mvT hZ (hw _ (List.mem_of_getElem? (i := 124) rfl))) (mvT hZ (hw _ (List.mem_of_getElem? (i := 125) rfl))) (mvT hZ (hw _ (List.mem_of_getElem? (i := 126) rfl))) (by decide) (backOf (W := 1) (rm18 l Z a0 hw []  h0 n0 Z0) hZ (hw _ (List.mem_of_getElem? (i := 126) rfl)) (hw _ (List.mem_of_getElem? (i := 125) rfl)) (by decide) (by decide)) (g := (mkF m 49 #[.val (.ref a1), .val (.int (1 : Int32)), .val (.int (0 : Int32)), .unset] [(.int (1 : Int32)), (.int (10 : Int32)), (.ref a1)])) rfl (by rw [hml]; rfl) (argsL := [(.int (10 : Int32)), (.int (1 : Int32))]) (rest := [(.ref a1)]) (lenOf pd_4 rfl) rfl (by show 2 * 0 + _ ≤ _; exact Nat.le_of_eq rfl) (hb hby d17_49) (fun _ _ => ⟨rfl, e5, (by decide : 0 + 0 ≤ _), (by decide : 0 + 0 ≤ _)⟩)
  dsimp only [Pt.U, Pt.locs, Pt.cells, Pt.slots] at X6 l6 y6 z6 st6 hQ6
  subst l6 y6 z6
  obtain ⟨rfl, N6q, e6⟩ := hQ6
  have N6 := Fr.app N0 N6q
  refine Go.step st6 ?_
  show Go p e below _ (T6.setTop (mkF m 52 #[.val (.ref a1), .val (.int (1 : Int32)), .val (.int (0 : Int32)), .unset] [(.int (10 : Int32)), (.ref a1)]))
  obtain ⟨T7, h7, k7, X7, e7, E7, A7, Ov7, st7⟩ := newR X6 hx hZ hown (hw _ (List.mem_of_getElem? (i := 127) rfl)) (hw _ (List.mem_of_getElem? (i := 128) rfl)) e6 (g := (mkF m 52 #[.val (.ref a1), .val (.int (1 : Int32)), .val (.int (0 : Int32)), .unset] [(.int (10 : Int32)), (.ref a1)])) rfl (hb hby d17_52) rfl (by decide) (cap := 10) (by decide) (by decide) (by decide) (by decide)
  obtain ⟨b7, g7⟩ : ∃ z, z = h0.size := ⟨_, rfl⟩
  rw [← g7] at A7 st7
  have g_b7 : n0 ≤ b7 := Nat.le_trans Z0 (Nat.le_of_eq g7.symm)
  have sz_b7 : h0.size ≤ b7 := Nat.le_trans KK0.1 (Nat.le_of_eq g7.symm)
  have ne_a1_b7 : a1 ≠ b7 := Nat.ne_of_lt (Nat.lt_of_lt_of_le E_a1.lt (Nat.le_of_eq g7.symm))
  have ne_oD_b7 : oD ≠ b7 := Nat.ne_of_lt (Nat.lt_of_lt_of_le A_oD.lt (Nat.le_of_eq g7.symm))
  refine Go.step st7 ?_
  have E_a1_7 := E_a1.ext E7
  have F_elementData_a1_7 := F_elementData_a1.ext E7
  have A_oD_7 := A_oD.ext E7
  have F_size_a1_7 := F_size_a1.ext E7
  have F_modCount_a1_7 := F_modCount_a1.ext E7
  have O7 := hO.ext E7
  have Z7 := Nat.le_trans Z0 E7.1
  have KK7 : Keep h0 h7 [a1] := KK0.ext E7
  clear E_a1 F_elementData_a1 A_oD F_size_a1 F_modCount_a1 hO Z0 KK0 E7
  have A_b7_7 : RAry Z h7 b7 (.object "java/lang/Object") "java/lang/Object" 10 (fun _ => .null) := RAry.mk A7 Ov7 (by decide) (by decide) rfl
  show Go p e below _ (T7.setTop (mkF m 55 #[.val (.ref a1), .val (.int (1 : Int32)), .val (.int (0 : Int32)), .unset] [(.ref b7), (.ref a1)]))
  refine Go.step (fun t k => XS.dupX1 X7.here hx rfl (hb hby d17_55) rfl rfl rfl k) ?_
  show Go p e below _ (T7.setTop (mkF m 56 #[.val (.ref a1), .val (.int (1 : Int32)), .val (.int (0 : Int32)), .unset] [(.ref b7), (.ref a1), (.ref b7)]))
  obtain ⟨T8, h8, X8, e8, W8, st8⟩ := putF X7 hx hZ hown (host := "") (Or.inl (hw _ (List.mem_of_getElem? (i := 55) rfl))) Via.refl e7 F_elementData_a1_7 E_a1_7 (Or.inl (hw _ (List.mem_of_getElem? (i := 56) rfl))) (hw _ (List.mem_of_getElem? (i := 34) rfl)) (ty := (.array (.object "java/lang/Object"))) (by decide) rfl rfl (g := (mkF m 56 #[.val (.ref a1), .val (.int (1 : Int32)), .val (.int (0 : Int32)), .unset] [(.ref b7), (.ref a1), (.ref b7)])) rfl rfl (hb hby d17_56)
  refine Go.step st8 ?_
  have N8 := Fr.snoc X8 N6 g_a1
  have E_a1_8 := E_a1_7.wr W8
  have A_oD_8 := A_oD_7.other W8 (O7.ne A_DEFAULTCAPACITY_EMPTY_ELEMENTDATA.lt g_a1)
  have F_size_a1_8 := F_size_a1_7.other W8 (Or.inr (slot_ne (Or.inl (hw _ (List.mem_of_getElem? (i := 80) rfl))) (Or.inl (hw _ (List.mem_of_getElem? (i := 56) rfl))) (by decide) (t := .int) (t' := (.array (.object "java/lang/Object"))) (by decide) (by decide)))
  have F_modCount_a1_8 := F_modCount_a1_7.other W8 (Or.inr (slot_ne (Or.inl (hw _ (List.mem_of_getElem? (i := 53) rfl))) (Or.inl (hw _ (List.mem_of_getElem? (i := 56) rfl))) (by decide) (t := .int) (t' := (.array (.object "java/lang/Object"))) (by decide) (by decide)))
  have A_b7_8 := A_b7_7.other W8 (Ne.symm ne_a1_b7)
  have O8 := O7.wr W8 g_a1
  have Z8 := Nat.le_trans Z7 (Keep.of_wr W8).1
  have KK8 : Keep h0 h8 [a1] := KK7.wr W8 (Or.inl (by simp))
  clear E_a1_7 A_oD_7 F_size_a1_7 F_modCount_a1_7 A_b7_7 O7 Z7 KK7
  have F_elementData_a1_8 := F_elementData_a1_7.same W8
  show Go p e below _ (T8.setTop (mkF m 59 #[.val (.ref a1), .val (.int (1 : Int32)), .val (.int (0 : Int32)), .unset] [(.ref b7)]))
  refine retGR X8 hx Bd.notSynchronized Bd.returns rfl rfl (hb hby d17_59) ?_ (by decide) (by decide)
  show Q17 Z a1 oD u_size_a1 u_modCount_a1 h0 n0 _ T8.heap _
  rw [e8]
  exact ⟨b7, rfl, N8, KK8, sz_b7, E_a1_8, F_elementData_a1_8, F_size_a1_8, F_modCount_a1_8, A_b7_8⟩
theorem d16_0 : decode jdk_38_method_7_code 0 = .ok (.aload_n 0, 1) := by decide +kernel
theorem d16_1 : decode jdk_38_method_7_code 1 = .ok (.aload_n 0, 1) := by decide +kernel
theorem d16_2 : decode jdk_38_method_7_code 2 = .ok (.getfield 48, 3) := by decide +kernel
theorem d16_5 : decode jdk_38_method_7_code 5 = .ok (.iconst 1, 1) := by decide +kernel
theorem d16_6 : decode jdk_38_method_7_code 6 = .ok (.iadd, 1) := by decide +kernel
theorem d16_7 : decode jdk_38_method_7_code 7 = .ok (.invokevirtual 69, 3) := by decide +kernel
theorem pd_5 : parseMethodDescriptor "(I)[Ljava/lang/Object;" = some ⟨[.int], some (.array (.object "java/lang/Object"))⟩ := by decide +kernel
theorem d16_10 : decode jdk_38_method_7_code 10 = .ok (.areturn, 1) := by decide +kernel
theorem ef_16 (m : MethodId) (a1 : Addr) : entryFrame m #[(.ref a1)] 1 = mkF m 0 #[.val (.ref a1)] [] := by first | (simp [entryFrame, mkF, argsToLocals, Value.category]; done) | rfl
def Q16 (Z : State) (a1 : Addr) (oD : Addr) (u_modCount_a1 : Value) (h0 : Heap) (n0 : Nat) (v : Option Value) (h : Heap) (L : List Loc) : Prop := ∃ (b3_0 : Addr), v = some (.ref b3_0) ∧ Fr n0 L ∧ Keep h0 h [a1] ∧ h0.size ≤ b3_0 ∧ Exa Z h a1 "java/util/ArrayList" ∧ Fld Z h a1 "java/util/ArrayList" "elementData" "[Ljava/lang/Object;" (.ref b3_0) ∧ Fld Z h a1 "java/util/ArrayList" "size" "I" (.int (0 : Int32)) ∧ Fld Z h a1 "java/util/AbstractList" "modCount" "I" u_modCount_a1 ∧ RAry Z h b3_0 (.object "java/lang/Object") "java/lang/Object" 10 (fun _ => .null)
set_option maxRecDepth 65536 in
set_option maxHeartbeats 40000000 in
theorem rm16 (l : Launch) (Z : State) (a0 : Array Value) (hw : ∀ d ∈ tables_1, d.before a0 Z = true) (ws : List Jvm.Cond) (a1 : Addr) (oD : Addr) (u_modCount_a1 : Value) (h0 : Heap) (n0 : Nat) (Z0 : n0 ≤ h0.size) (E_a1 : Exa Z h0 a1 "java/util/ArrayList") (F_elementData_a1 : Fld Z h0 a1 "java/util/ArrayList" "elementData" "[Ljava/lang/Object;" (.ref oD)) (A_oD : Ary Z h0 oD (.object "java/lang/Object") 0 (fun _ => Value.null)) (F_size_a1 : Fld Z h0 a1 "java/util/ArrayList" "size" "I" (.int (0 : Int32))) (F_modCount_a1 : Fld Z h0 a1 "java/util/AbstractList" "modCount" "I" u_modCount_a1) (S_DEFAULTCAPACITY_EMPTY_ELEMENTDATA : Sta Z Z.heap "java/util/ArrayList" "DEFAULTCAPACITY_EMPTY_ELEMENTDATA" "[Ljava/lang/Object;" (.ref oD)) (A_DEFAULTCAPACITY_EMPTY_ELEMENTDATA : Ary Z Z.heap oD (.object "java/lang/Object") 0 (fun _ => Value.null)) (hO : Old Z n0 h0) (g_a1 : n0 ≤ a1) :
    MetFree l (⟨"java/util/ArrayList", "grow", "()[Ljava/lang/Object;"⟩ : MethodName) (head1 (Jvm.Cond.code (⟨"java/util/ArrayList", "grow", "()[Ljava/lang/Object;"⟩ : MethodName) jdk_38_method_7_code 1 (some (.array (.object "java/lang/Object"))) :: ws) ({ frames := 2, cells := 1, slots := 10, locals := 29 } : Room)) (fun a U => a = #[(.ref a1)] ∧ Z.Warmed39 U.vm ∧ U.heap = h0) (fun _ _ _ _ _ => True) (fun _ U o U' => ∃ v L, o = .returned v ∧ Q16 Z a1 oD u_modCount_a1 h0 n0 v U'.heap L ∧ FrameEnd U o U' L ({ frames := 2, cells := 1, slots := 10, locals := 29 } : Room).cells ({ frames := 2, cells := 1, slots := 10, locals := 29 } : Room).slots) := by
  refine MetFree.of_bodySF (plainFor_of_name pn_4) hisR ?_
  intro p e s m args below meth c s₁ Bd hml0 hP hK
  obtain ⟨rfl, hZ, hh⟩ := hP
  have hx := Bd.exec
  have hby := Bd.bytes
  have hml : c.maxLocals = 1 := hml0
  have hown : s.vm.findClass "java/util/ArrayList" = some m.cls := findClass_of_methodNamed Bd.named
  have hnm := (name_of_methodNamed Bd.named Bd.method).1
  have X0 : Stand p l e ({ frames := 2, cells := 1, slots := 10, locals := 29 } : Room) s m #[(.ref a1)] below meth c s₁ [] 0 0 := Stand.of_body Bd
  have e0 : s₁.heap = h0 := by rw [← hh, Bd.state]; rfl
  have N0 := Fr.nil n0
  refine Go.done (Go.step (fun t k => castTop (ef_16 m a1) k) ?_)
  have KK0 : Keep h0 h0 [a1] := Keep.refl _ _
  show Go p e below _ (s₁.setTop (mkF m 0 #[.val (.ref a1)] []))
  refine Go.step (fun t k => XS.aloadN X0.here hx rfl (hb hby d16_0) rfl rfl k) ?_
  show Go p e below _ (s₁.setTop (mkF m 1 #[.val (.ref a1)] [(.ref a1)]))
  refine Go.step (fun t k => XS.aloadN X0.here hx rfl (hb hby d16_1) rfl rfl k) ?_
  show Go p e below _ (s₁.setTop (mkF m 2 #[.val (.ref a1)] [(.ref a1), (.ref a1)]))
  obtain ⟨T2, X2, e2, st2⟩ := getF X0 hx hZ hown (host := "") (Or.inl (hw _ (List.mem_of_getElem? (i := 79) rfl))) Via.refl e0 F_size_a1 (g := (mkF m 2 #[.val (.ref a1)] [(.ref a1), (.ref a1)])) rfl rfl (hb hby d16_2)
  refine Go.step st2 ?_
  show Go p e below _ (T2.setTop (mkF m 5 #[.val (.ref a1)] [(.int (0 : Int32)), (.ref a1)]))
  refine Go.step (fun t k => XS.iconst X2.here hx rfl (hb hby d16_5)  k) ?_
  show Go p e below _ (T2.setTop (mkF m 6 #[.val (.ref a1)] [(.int (1 : Int32)), (.int (0 : Int32)), (.ref a1)]))
  refine Go.step (fun t k => XS.iadd X2.here hx rfl (hb hby d16_6) rfl k) ?_
  show Go p e below _ (T2.setTop (mkF m 7 #[.val (.ref a1)] [(.int (1 : Int32)), (.ref a1)]))
  obtain ⟨cq3, q3, q3'⟩ := E_a1.cell
  obtain ⟨_, _, ⟨T3, L3, k3, n3⟩, -, X3, ⟨Lc3, hQ3, l3, y3, z3⟩, st3⟩ := X2.privateBack hx (y := (⟨"java/util/ArrayList", "grow", "(I)[Ljava/lang/Object;"⟩ : MethodName)) hown (mvT hZ (hw _ (List.mem_of_getElem? (i := 118) rfl))) (mvT hZ (hw _ (List.mem_of_getElem? (i := 119) rfl))) (mvT hZ (hw _ (List.mem_of_getElem? (i := 121) rfl))) (Cond.privateMethod_at (mvP hZ (hw _ (List.mem_of_getElem? (i := 120) rfl)) (args := #[]))) (mvT hZ (hw _ (List.mem_of_getElem? (i := 122) rfl))) (by decide) (backOf (W := 0) (rm17 l Z a0 hw [] a1 oD (.int (0 : Int32)) u_modCount_a1 h0 n0 Z0 E_a1 F_elementData_a1 A_oD F_size_a1 F_modCount_a1 S_DEFAULTCAPACITY_EMPTY_ELEMENTDATA A_DEFAULTCAPACITY_EMPTY_ELEMENTDATA hO g_a1) hZ (hw _ (List.mem_of_getElem? (i := 122) rfl)) (hw _ (List.mem_of_getElem? (i := 35) rfl)) (by decide) (by decide)) (g := (mkF m 7 #[.val (.ref a1)] [(.int (1 : Int32)), (.ref a1)])) rfl (by rw [hml]; rfl) (Steps.refl _) (a := a1) (by rw [e2]; exact q3) q3' (argsL := [(.int (1 : Int32))]) (rest := []) (lenOf pd_5 rfl) rfl (by show 2 * 0 + _ ≤ _; exact Nat.le_of_eq rfl) (hb hby d16_7) (fun _ _ => ⟨rfl, e2, (by decide : 0 + 1 ≤ _), (by decide : 0 + 10 ≤ _)⟩)
  dsimp only [Pt.U, Pt.locs, Pt.cells, Pt.slots] at X3 l3 y3 z3 st3 hQ3
  subst l3 y3 z3
  obtain ⟨b3_0, rfl, N3q, K3, sz3_0, Q3_0, Q3_1, Q3_2, Q3_3, Q3_4⟩ := hQ3
  have N3 := Fr.app N0 N3q
  have g_b3_0 : n0 ≤ b3_0 := Nat.le_trans Z0 sz3_0
  have sz_b3_0 : h0.size ≤ b3_0 := Nat.le_trans KK0.1 sz3_0
  have ne_a1_b3_0 : a1 ≠ b3_0 := Nat.ne_of_lt (Nat.lt_of_lt_of_le E_a1.lt sz3_0)
  have ne_oD_b3_0 : oD ≠ b3_0 := Nat.ne_of_lt (Nat.lt_of_lt_of_le A_oD.lt sz3_0)
  have E_a1_3 := E_a1.keep K3
  have A_oD_3 := A_oD.keep K3 (ninS (hO.ne A_DEFAULTCAPACITY_EMPTY_ELEMENTDATA.lt g_a1) nin0)
  have O3 := hO.keep K3 (allS g_a1 all0)
  have Z3 := Nat.le_trans Z0 K3.1
  have KK3 : Keep h0 T3.heap [a1] := KK0.trans K3 (allS (Or.inl (by simp)) all0)
  clear E_a1 A_oD hO Z0 KK0 K3
  refine Go.trans st3 ?_
  show Go p e below _ (T3.setTop (mkF m 10 #[.val (.ref a1)] [(.ref b3_0)]))
  refine retGR X3 hx Bd.notSynchronized Bd.returns rfl rfl (hb hby d16_10) ?_ (by decide) (by decide)
  show Q16 Z a1 oD u_modCount_a1 h0 n0 _ T3.heap _
  exact ⟨b3_0, rfl, N3, KK3, sz_b3_0, Q3_0, Q3_1, Q3_2, Q3_3, Q3_4⟩
theorem d15_0 : decode jdk_38_method_24_code 0 = .ok (.iload_n 3, 1) := by decide +kernel
theorem d15_1 : decode jdk_38_method_24_code 1 = .ok (.aload_n 2, 1) := by decide +kernel
theorem d15_2 : decode jdk_38_method_24_code 2 = .ok (.arraylength, 1) := by decide +kernel
theorem d15_3 : decode jdk_38_method_24_code 3 = .ok (.if_icmp .ne 8, 3) := by decide +kernel
theorem d15_6 : decode jdk_38_method_24_code 6 = .ok (.aload_n 0, 1) := by decide +kernel
theorem d15_7 : decode jdk_38_method_24_code 7 = .ok (.invokevirtual 129, 3) := by decide +kernel
theorem pd_6 : parseMethodDescriptor "()[Ljava/lang/Object;" = some ⟨[], some (.array (.object "java/lang/Object"))⟩ := by decide +kernel
theorem d15_10 : decode jdk_38_method_24_code 10 = .ok (.astore_n 2, 1) := by decide +kernel
theorem d15_11 : decode jdk_38_method_24_code 11 = .ok (.aload_n 2, 1) := by decide +kernel
theorem d15_12 : decode jdk_38_method_24_code 12 = .ok (.iload_n 3, 1) := by decide +kernel
theorem d15_13 : decode jdk_38_method_24_code 13 = .ok (.aload_n 1, 1) := by decide +kernel
theorem d15_14 : decode jdk_38_method_24_code 14 = .ok (.aastore, 1) := by decide +kernel
theorem d15_15 : decode jdk_38_method_24_code 15 = .ok (.aload_n 0, 1) := by decide +kernel
theorem d15_16 : decode jdk_38_method_24_code 16 = .ok (.iload_n 3, 1) := by decide +kernel
theorem d15_17 : decode jdk_38_method_24_code 17 = .ok (.iconst 1, 1) := by decide +kernel
theorem d15_18 : decode jdk_38_method_24_code 18 = .ok (.iadd, 1) := by decide +kernel
theorem d15_19 : decode jdk_38_method_24_code 19 = .ok (.putfield 48, 3) := by decide +kernel
theorem d15_22 : decode jdk_38_method_24_code 22 = .ok (.return_, 1) := by decide +kernel
theorem ef_15_0 (m : MethodId) (a1 : Addr) (a2 : Addr) : entryFrame m #[(.ref a1), (.ref a2), (.ref oD), (.int (0 : Int32))] 4 = mkF m 0 #[.val (.ref a1), .val (.ref a2), .val (.ref oD), .val (.int (0 : Int32))] [] := by first | (simp [entryFrame, mkF, argsToLocals, Value.category]; done) | rfl
def Q15_0 (Z : State) (a1 : Addr) (a2 : Addr) (oD : Addr) (u_modCount_a1 : Value) (h0 : Heap) (n0 : Nat) (v : Option Value) (h : Heap) (L : List Loc) : Prop := ∃ (b5_0 : Addr), v = none ∧ Fr n0 L ∧ Keep h0 h [a1] ∧ h0.size ≤ b5_0 ∧ Exa Z h a1 "java/util/ArrayList" ∧ Fld Z h a1 "java/util/ArrayList" "elementData" "[Ljava/lang/Object;" (.ref b5_0) ∧ Fld Z h a1 "java/util/ArrayList" "size" "I" (.int (1 : Int32)) ∧ Fld Z h a1 "java/util/AbstractList" "modCount" "I" u_modCount_a1 ∧ RAry Z h b5_0 (.object "java/lang/Object") "java/lang/Object" 10 (upA (fun _ => .null) 0 (.ref a2))
set_option maxRecDepth 65536 in
set_option maxHeartbeats 40000000 in
theorem rm15_0 (l : Launch) (Z : State) (a0 : Array Value) (hw : ∀ d ∈ tables_1, d.before a0 Z = true) (ws : List Jvm.Cond) (a1 : Addr) (a2 : Addr) (oD : Addr) (u_modCount_a1 : Value) (h0 : Heap) (n0 : Nat) (Z0 : n0 ≤ h0.size) (E_a1 : Exa Z h0 a1 "java/util/ArrayList") (E_a2 : Exa Z h0 a2 "com/example/dataflow_to_dispatch/dataflowtodispatch/model/document/XmlElement") (F_size_a1 : Fld Z h0 a1 "java/util/ArrayList" "size" "I" (.int (0 : Int32))) (F_elementData_a1 : Fld Z h0 a1 "java/util/ArrayList" "elementData" "[Ljava/lang/Object;" (.ref oD)) (A_oD : Ary Z h0 oD (.object "java/lang/Object") 0 (fun _ => Value.null)) (F_modCount_a1 : Fld Z h0 a1 "java/util/AbstractList" "modCount" "I" u_modCount_a1) (S_DEFAULTCAPACITY_EMPTY_ELEMENTDATA : Sta Z Z.heap "java/util/ArrayList" "DEFAULTCAPACITY_EMPTY_ELEMENTDATA" "[Ljava/lang/Object;" (.ref oD)) (A_DEFAULTCAPACITY_EMPTY_ELEMENTDATA : Ary Z Z.heap oD (.object "java/lang/Object") 0 (fun _ => Value.null)) (hO : Old Z n0 h0) (g_a1 : n0 ≤ a1) :
    MetFree l (⟨"java/util/ArrayList", "add", "(Ljava/lang/Object;[Ljava/lang/Object;I)V"⟩ : MethodName) (head1 (Jvm.Cond.code (⟨"java/util/ArrayList", "add", "(Ljava/lang/Object;[Ljava/lang/Object;I)V"⟩ : MethodName) jdk_38_method_24_code 4 none :: ws) ({ frames := 3, cells := 1, slots := 10, locals := 41 } : Room)) (fun a U => a = #[(.ref a1), (.ref a2), (.ref oD), (.int (0 : Int32))] ∧ Z.Warmed39 U.vm ∧ U.heap = h0) (fun _ _ _ _ _ => True) (fun _ U o U' => ∃ v L, o = .returned v ∧ Q15_0 Z a1 a2 oD u_modCount_a1 h0 n0 v U'.heap L ∧ FrameEnd U o U' L ({ frames := 3, cells := 1, slots := 10, locals := 41 } : Room).cells ({ frames := 3, cells := 1, slots := 10, locals := 41 } : Room).slots) := by
  refine MetFree.of_bodySF (plainFor_of_name pn_4) hisR ?_
  intro p e s m args below meth c s₁ Bd hml0 hP hK
  obtain ⟨rfl, hZ, hh⟩ := hP
  have hx := Bd.exec
  have hby := Bd.bytes
  have hml : c.maxLocals = 4 := hml0
  have hown : s.vm.findClass "java/util/ArrayList" = some m.cls := findClass_of_methodNamed Bd.named
  have hnm := (name_of_methodNamed Bd.named Bd.method).1
  have X0 : Stand p l e ({ frames := 3, cells := 1, slots := 10, locals := 41 } : Room) s m #[(.ref a1), (.ref a2), (.ref oD), (.int (0 : Int32))] below meth c s₁ [] 0 0 := Stand.of_body Bd
  have e0 : s₁.heap = h0 := by rw [← hh, Bd.state]; rfl
  have N0 := Fr.nil n0
  refine Go.done (Go.step (fun t k => castTop (ef_15_0 m a1 a2) k) ?_)
  have KK0 : Keep h0 h0 [a1] := Keep.refl _ _
  show Go p e below _ (s₁.setTop (mkF m 0 #[.val (.ref a1), .val (.ref a2), .val (.ref oD), .val (.int (0 : Int32))] []))
  refine Go.step (fun t k => XS.iloadN X0.here hx rfl (hb hby d15_0) rfl k) ?_
  show Go p e below _ (s₁.setTop (mkF m 1 #[.val (.ref a1), .val (.ref a2), .val (.ref oD), .val (.int (0 : Int32))] [(.int (0 : Int32))]))
  refine Go.step (fun t k => XS.aloadN X0.here hx rfl (hb hby d15_1) rfl rfl k) ?_
  show Go p e below _ (s₁.setTop (mkF m 2 #[.val (.ref a1), .val (.ref a2), .val (.ref oD), .val (.int (0 : Int32))] [(.ref oD), (.int (0 : Int32))]))
  refine Go.step (lenA X0 hx hZ e0 A_oD (g := (mkF m 2 #[.val (.ref a1), .val (.ref a2), .val (.ref oD), .val (.int (0 : Int32))] [(.ref oD), (.int (0 : Int32))])) rfl rfl (hb hby d15_2)) ?_
  show Go p e below _ (s₁.setTop (mkF m 3 #[.val (.ref a1), .val (.ref a2), .val (.ref oD), .val (.int (0 : Int32))] [(.int (0 : Int32)), (.int (0 : Int32))]))
  refine Go.step (fun t k => XS.icmpNo X0.here hx rfl (hb hby d15_3) rfl (teq (rfl : (0 : Int32) = (0 : Int32))).2 k) ?_
  show Go p e below _ (s₁.setTop (mkF m 6 #[.val (.ref a1), .val (.ref a2), .val (.ref oD), .val (.int (0 : Int32))] []))
  refine Go.step (fun t k => XS.aloadN X0.here hx rfl (hb hby d15_6) rfl rfl k) ?_
  show Go p e below _ (s₁.setTop (mkF m 7 #[.val (.ref a1), .val (.ref a2), .val (.ref oD), .val (.int (0 : Int32))] [(.ref a1)]))
  obtain ⟨cq5, q5, q5'⟩ := E_a1.cell
  obtain ⟨_, _, ⟨T5, L5, k5, n5⟩, -, X5, ⟨Lc5, hQ5, l5, y5, z5⟩, st5⟩ := X0.privateBack hx (y := (⟨"java/util/ArrayList", "grow", "()[Ljava/lang/Object;"⟩ : MethodName)) hown (mvT hZ (hw _ (List.mem_of_getElem? (i := 113) rfl))) (mvT hZ (hw _ (List.mem_of_getElem? (i := 114) rfl))) (mvT hZ (hw _ (List.mem_of_getElem? (i := 116) rfl))) (Cond.privateMethod_at (mvP hZ (hw _ (List.mem_of_getElem? (i := 115) rfl)) (args := #[]))) (mvT hZ (hw _ (List.mem_of_getElem? (i := 117) rfl))) (by decide) (backOf (W := 0) (rm16 l Z a0 hw [] a1 oD u_modCount_a1 h0 n0 Z0 E_a1 F_elementData_a1 A_oD F_size_a1 F_modCount_a1 S_DEFAULTCAPACITY_EMPTY_ELEMENTDATA A_DEFAULTCAPACITY_EMPTY_ELEMENTDATA hO g_a1) hZ (hw _ (List.mem_of_getElem? (i := 117) rfl)) (hw _ (List.mem_of_getElem? (i := 35) rfl)) (by decide) (by decide)) (g := (mkF m 7 #[.val (.ref a1), .val (.ref a2), .val (.ref oD), .val (.int (0 : Int32))] [(.ref a1)])) rfl (by rw [hml]; rfl) (Steps.refl _) (a := a1) (by rw [e0]; exact q5) q5' (argsL := []) (rest := []) (lenOf pd_6 rfl) rfl (by show 2 * 0 + _ ≤ _; exact Nat.le_of_eq rfl) (hb hby d15_7) (fun _ _ => ⟨rfl, e0, (by decide : 0 + 1 ≤ _), (by decide : 0 + 10 ≤ _)⟩)
  dsimp only [Pt.U, Pt.locs, Pt.cells, Pt.slots] at X5 l5 y5 z5 st5 hQ5
  subst l5 y5 z5
  obtain ⟨b5_0, rfl, N5q, K5, sz5_0, Q5_0, Q5_1, Q5_2, Q5_3, Q5_4⟩ := hQ5
  have N5 := Fr.app N0 N5q
  have g_b5_0 : n0 ≤ b5_0 := Nat.le_trans Z0 sz5_0
  have sz_b5_0 : h0.size ≤ b5_0 := Nat.le_trans KK0.1 sz5_0
  have ne_a1_b5_0 : a1 ≠ b5_0 := Nat.ne_of_lt (Nat.lt_of_lt_of_le E_a1.lt sz5_0)
  have ne_a2_b5_0 : a2 ≠ b5_0 := Nat.ne_of_lt (Nat.lt_of_lt_of_le E_a2.lt sz5_0)
  have ne_oD_b5_0 : oD ≠ b5_0 := Nat.ne_of_lt (Nat.lt_of_lt_of_le A_oD.lt sz5_0)
  have E_a1_5 := E_a1.keep K5
  have E_a2_5 := E_a2.keep K5
  have A_oD_5 := A_oD.keep K5 (ninS (hO.ne A_DEFAULTCAPACITY_EMPTY_ELEMENTDATA.lt g_a1) nin0)
  have O5 := hO.keep K5 (allS g_a1 all0)
  have Z5 := Nat.le_trans Z0 K5.1
  have KK5 : Keep h0 T5.heap [a1] := KK0.trans K5 (allS (Or.inl (by simp)) all0)
  clear E_a1 E_a2 A_oD hO Z0 KK0 K5
  refine Go.trans st5 ?_
  show Go p e below _ (T5.setTop (mkF m 10 #[.val (.ref a1), .val (.ref a2), .val (.ref oD), .val (.int (0 : Int32))] [(.ref b5_0)]))
  refine Go.step (fun t k => XS.astoreN X5.here hx rfl (hb hby d15_10) rfl rfl (l' := #[.val (.ref a1), .val (.ref a2), .val (.ref b5_0), .val (.int (0 : Int32))]) rfl k) ?_
  show Go p e below _ (T5.setTop (mkF m 11 #[.val (.ref a1), .val (.ref a2), .val (.ref b5_0), .val (.int (0 : Int32))] []))
  refine Go.step (fun t k => XS.aloadN X5.here hx rfl (hb hby d15_11) rfl rfl k) ?_
  show Go p e below _ (T5.setTop (mkF m 12 #[.val (.ref a1), .val (.ref a2), .val (.ref b5_0), .val (.int (0 : Int32))] [(.ref b5_0)]))
  refine Go.step (fun t k => XS.iloadN X5.here hx rfl (hb hby d15_12) rfl k) ?_
  show Go p e below _ (T5.setTop (mkF m 13 #[.val (.ref a1), .val (.ref a2), .val (.ref b5_0), .val (.int (0 : Int32))] [(.int (0 : Int32)), (.ref b5_0)]))
  refine Go.step (fun t k => XS.aloadN X5.here hx rfl (hb hby d15_13) rfl rfl k) ?_
  show Go p e below _ (T5.setTop (mkF m 14 #[.val (.ref a1), .val (.ref a2), .val (.ref b5_0), .val (.int (0 : Int32))] [(.ref a2), (.int (0 : Int32)), (.ref b5_0)]))
  obtain ⟨cl6, Ar6, in6, -⟩ := Q5_4.hin (j := (0 : Int32)) (by decide) (by decide)
  obtain ⟨T6, h6, X6, e6, W6, st6⟩ := Jvm.RoadKit.stR X5 hx hZ rfl Ar6 in6 rfl (Q5_4.sto (Ins.of_exa E_a2_5 (hw _ (List.mem_of_getElem? (i := 129) rfl)))) (g := (mkF m 14 #[.val (.ref a1), .val (.ref a2), .val (.ref b5_0), .val (.int (0 : Int32))] [(.ref a2), (.int (0 : Int32)), (.ref b5_0)])) rfl rfl (hb hby d15_14)
  refine Go.step st6 ?_
  have N6 := Fr.snoc X6 N5 g_b5_0
  have E_a1_6 := Q5_0.wr W6
  have E_a2_6 := E_a2_5.wr W6
  have A_oD_6 := A_oD_5.other W6 ne_oD_b5_0
  have F_elementData_a1_6 := Q5_1.other W6 (Or.inl ne_a1_b5_0)
  have F_size_a1_6 := Q5_2.other W6 (Or.inl ne_a1_b5_0)
  have F_modCount_a1_6 := Q5_3.other W6 (Or.inl ne_a1_b5_0)
  have O6 := O5.wr W6 g_b5_0
  have Z6 := Nat.le_trans Z5 (Keep.of_wr W6).1
  have KK6 : Keep h0 h6 [a1] := KK5.wr W6 (Or.inr sz_b5_0)
  clear Q5_0 E_a2_5 A_oD_5 Q5_1 Q5_2 Q5_3 O5 Z5 KK5
  have A_b5_0_6 : RAry Z h6 b5_0 (.object "java/lang/Object") "java/lang/Object" 10 (upA (fun _ => .null) 0 (.ref a2)) := Q5_4.set W6 (by decide)
  show Go p e below _ (T6.setTop (mkF m 15 #[.val (.ref a1), .val (.ref a2), .val (.ref b5_0), .val (.int (0 : Int32))] []))
  refine Go.step (fun t k => XS.aloadN X6.here hx rfl (hb hby d15_15) rfl rfl k) ?_
  show Go p e below _ (T6.setTop (mkF m 16 #[.val (.ref a1), .val (.ref a2), .val (.ref b5_0), .val (.int (0 : Int32))] [(.ref a1)]))
  refine Go.step (fun t k => XS.iloadN X6.here hx rfl (hb hby d15_16) rfl k) ?_
  show Go p e below _ (T6.setTop (mkF m 17 #[.val (.ref a1), .val (.ref a2), .val (.ref b5_0), .val (.int (0 : Int32))] [(.int (0 : Int32)), (.ref a1)]))
  refine Go.step (fun t k => XS.iconst X6.here hx rfl (hb hby d15_17)  k) ?_
  show Go p e below _ (T6.setTop (mkF m 18 #[.val (.ref a1), .val (.ref a2), .val (.ref b5_0), .val (.int (0 : Int32))] [(.int (1 : Int32)), (.int (0 : Int32)), (.ref a1)]))
  refine Go.step (fun t k => XS.iadd X6.here hx rfl (hb hby d15_18) rfl k) ?_
  show Go p e below _ (T6.setTop (mkF m 19 #[.val (.ref a1), .val (.ref a2), .val (.ref b5_0), .val (.int (0 : Int32))] [(.int (1 : Int32)), (.ref a1)]))
  obtain ⟨T7, h7, X7, e7, W7, st7⟩ := putF X6 hx hZ hown (host := "") (Or.inl (hw _ (List.mem_of_getElem? (i := 79) rfl))) Via.refl e6 F_size_a1_6 E_a1_6 (Or.inl (hw _ (List.mem_of_getElem? (i := 80) rfl))) (hw _ (List.mem_of_getElem? (i := 34) rfl)) (ty := .int) (by decide) rfl rfl (g := (mkF m 19 #[.val (.ref a1), .val (.ref a2), .val (.ref b5_0), .val (.int (0 : Int32))] [(.int (1 : Int32)), (.ref a1)])) rfl rfl (hb hby d15_19)
  refine Go.step st7 ?_
  have N7 := Fr.snoc X7 N6 g_a1
  have E_a1_7 := E_a1_6.wr W7
  have E_a2_7 := E_a2_6.wr W7
  have A_oD_7 := A_oD_6.other W7 (O6.ne A_DEFAULTCAPACITY_EMPTY_ELEMENTDATA.lt g_a1)
  have F_elementData_a1_7 := F_elementData_a1_6.other W7 (Or.inr (slot_ne (Or.inl (hw _ (List.mem_of_getElem? (i := 56) rfl))) (Or.inl (hw _ (List.mem_of_getElem? (i := 80) rfl))) (by decide) (t := (.array (.object "java/lang/Object"))) (t' := .int) (by decide) (by decide)))
  have F_modCount_a1_7 := F_modCount_a1_6.other W7 (Or.inr (slot_ne (Or.inl (hw _ (List.mem_of_getElem? (i := 53) rfl))) (Or.inl (hw _ (List.mem_of_getElem? (i := 80) rfl))) (by decide) (t := .int) (t' := .int) (by decide) (by decide)))
  have A_b5_0_7 := A_b5_0_6.other W7 (Ne.symm ne_a1_b5_0)
  have O7 := O6.wr W7 g_a1
  have Z7 := Nat.le_trans Z6 (Keep.of_wr W7).1
  have KK7 : Keep h0 h7 [a1] := KK6.wr W7 (Or.inl (by simp))
  clear E_a1_6 E_a2_6 A_oD_6 F_elementData_a1_6 F_modCount_a1_6 A_b5_0_6 O6 Z6 KK6
  have F_size_a1_7 := F_size_a1_6.same W7
  show Go p e below _ (T7.setTop (mkF m 22 #[.val (.ref a1), .val (.ref a2), .val (.ref b5_0), .val (.int (0 : Int32))] []))
  refine retGV X7 hx Bd.notSynchronized Bd.returns (hb hby d15_22) ?_ (by decide) (by decide)
  show Q15_0 Z a1 a2 oD u_modCount_a1 h0 n0 _ T7.heap _
  rw [e7]
  exact ⟨b5_0, rfl, N7, KK7, sz_b5_0, E_a1_7, F_elementData_a1_7, F_size_a1_7, F_modCount_a1_7, A_b5_0_7⟩
theorem d14_0 : decode jdk_38_method_25_code 0 = .ok (.aload_n 0, 1) := by decide +kernel
theorem d14_1 : decode jdk_38_method_25_code 1 = .ok (.dup, 1) := by decide +kernel
theorem d14_2 : decode jdk_38_method_25_code 2 = .ok (.getfield 63, 3) := by decide +kernel
theorem d14_5 : decode jdk_38_method_25_code 5 = .ok (.iconst 1, 1) := by decide +kernel
theorem d14_6 : decode jdk_38_method_25_code 6 = .ok (.iadd, 1) := by decide +kernel
theorem d14_7 : decode jdk_38_method_25_code 7 = .ok (.putfield 63, 3) := by decide +kernel
theorem d14_10 : decode jdk_38_method_25_code 10 = .ok (.aload_n 0, 1) := by decide +kernel
theorem d14_11 : decode jdk_38_method_25_code 11 = .ok (.aload_n 1, 1) := by decide +kernel
theorem d14_12 : decode jdk_38_method_25_code 12 = .ok (.aload_n 0, 1) := by decide +kernel
theorem d14_13 : decode jdk_38_method_25_code 13 = .ok (.getfield 9, 3) := by decide +kernel
theorem d14_16 : decode jdk_38_method_25_code 16 = .ok (.aload_n 0, 1) := by decide +kernel
theorem d14_17 : decode jdk_38_method_25_code 17 = .ok (.getfield 48, 3) := by decide +kernel
theorem d14_20 : decode jdk_38_method_25_code 20 = .ok (.invokevirtual 131, 3) := by decide +kernel
theorem pd_7 : parseMethodDescriptor "(Ljava/lang/Object;[Ljava/lang/Object;I)V" = some ⟨[(.object "java/lang/Object"), (.array (.object "java/lang/Object")), .int], none⟩ := by decide +kernel
theorem d14_23 : decode jdk_38_method_25_code 23 = .ok (.iconst 1, 1) := by decide +kernel
theorem d14_24 : decode jdk_38_method_25_code 24 = .ok (.ireturn, 1) := by decide +kernel
theorem ef_14_0 (m : MethodId) (a1 : Addr) (a2 : Addr) : entryFrame m #[(.ref a1), (.ref a2)] 2 = mkF m 0 #[.val (.ref a1), .val (.ref a2)] [] := by first | (simp [entryFrame, mkF, argsToLocals, Value.category]; done) | rfl
def Q14_0 (Z : State) (a1 : Addr) (a2 : Addr) (oD : Addr) (w_modCount_a1 : Int32) (h0 : Heap) (n0 : Nat) (v : Option Value) (h : Heap) (L : List Loc) : Prop := ∃ (b7_0 : Addr), v = some (.int (1 : Int32)) ∧ Fr n0 L ∧ Keep h0 h [a1] ∧ h0.size ≤ b7_0 ∧ Exa Z h a1 "java/util/ArrayList" ∧ Fld Z h a1 "java/util/ArrayList" "elementData" "[Ljava/lang/Object;" (.ref b7_0) ∧ Fld Z h a1 "java/util/ArrayList" "size" "I" (.int (1 : Int32)) ∧ Fld Z h a1 "java/util/AbstractList" "modCount" "I" (.int (w_modCount_a1 + (1 : Int32))) ∧ RAry Z h b7_0 (.object "java/lang/Object") "java/lang/Object" 10 (upA (fun _ => .null) 0 (.ref a2))
set_option maxRecDepth 65536 in
set_option maxHeartbeats 40000000 in
theorem rm14_0 (l : Launch) (Z : State) (a0 : Array Value) (hw : ∀ d ∈ tables_1, d.before a0 Z = true) (ws : List Jvm.Cond) (a1 : Addr) (a2 : Addr) (oD : Addr) (w_modCount_a1 : Int32) (h0 : Heap) (n0 : Nat) (Z0 : n0 ≤ h0.size) (E_a1 : Exa Z h0 a1 "java/util/ArrayList") (E_a2 : Exa Z h0 a2 "com/example/dataflow_to_dispatch/dataflowtodispatch/model/document/XmlElement") (F_size_a1 : Fld Z h0 a1 "java/util/ArrayList" "size" "I" (.int (0 : Int32))) (F_elementData_a1 : Fld Z h0 a1 "java/util/ArrayList" "elementData" "[Ljava/lang/Object;" (.ref oD)) (A_oD : Ary Z h0 oD (.object "java/lang/Object") 0 (fun _ => Value.null)) (hO : Old Z n0 h0) (F_modCount_a1 : Fld Z h0 a1 "java/util/AbstractList" "modCount" "I" (.int w_modCount_a1)) (g_a1 : n0 ≤ a1) (hne_oD_a1 : oD ≠ a1) (S_DEFAULTCAPACITY_EMPTY_ELEMENTDATA : Sta Z Z.heap "java/util/ArrayList" "DEFAULTCAPACITY_EMPTY_ELEMENTDATA" "[Ljava/lang/Object;" (.ref oD)) (A_DEFAULTCAPACITY_EMPTY_ELEMENTDATA : Ary Z Z.heap oD (.object "java/lang/Object") 0 (fun _ => Value.null)) :
    MetFree l (⟨"java/util/ArrayList", "add", "(Ljava/lang/Object;)Z"⟩ : MethodName) (head1 (Jvm.Cond.code (⟨"java/util/ArrayList", "add", "(Ljava/lang/Object;)Z"⟩ : MethodName) jdk_38_method_25_code 2 (some .boolean) :: ws) ({ frames := 4, cells := 1, slots := 10, locals := 56 } : Room)) (fun a U => a = #[(.ref a1), (.ref a2)] ∧ Z.Warmed39 U.vm ∧ U.heap = h0) (fun _ _ _ _ _ => True) (fun _ U o U' => ∃ v L, o = .returned v ∧ Q14_0 Z a1 a2 oD w_modCount_a1 h0 n0 v U'.heap L ∧ FrameEnd U o U' L ({ frames := 4, cells := 1, slots := 10, locals := 56 } : Room).cells ({ frames := 4, cells := 1, slots := 10, locals := 56 } : Room).slots) := by
  refine MetFree.of_bodySF (plainFor_of_name pn_4) hisR ?_
  intro p e s m args below meth c s₁ Bd hml0 hP hK
  obtain ⟨rfl, hZ, hh⟩ := hP
  have hx := Bd.exec
  have hby := Bd.bytes
  have hml : c.maxLocals = 2 := hml0
  have hown : s.vm.findClass "java/util/ArrayList" = some m.cls := findClass_of_methodNamed Bd.named
  have hnm := (name_of_methodNamed Bd.named Bd.method).1
  have X0 : Stand p l e ({ frames := 4, cells := 1, slots := 10, locals := 56 } : Room) s m #[(.ref a1), (.ref a2)] below meth c s₁ [] 0 0 := Stand.of_body Bd
  have e0 : s₁.heap = h0 := by rw [← hh, Bd.state]; rfl
  have N0 := Fr.nil n0
  refine Go.done (Go.step (fun t k => castTop (ef_14_0 m a1 a2) k) ?_)
  have KK0 : Keep h0 h0 [a1] := Keep.refl _ _
  show Go p e below _ (s₁.setTop (mkF m 0 #[.val (.ref a1), .val (.ref a2)] []))
  refine Go.step (fun t k => XS.aloadN X0.here hx rfl (hb hby d14_0) rfl rfl k) ?_
  show Go p e below _ (s₁.setTop (mkF m 1 #[.val (.ref a1), .val (.ref a2)] [(.ref a1)]))
  refine Go.step (fun t k => XS.dup X0.here hx rfl (hb hby d14_1) rfl rfl k) ?_
  show Go p e below _ (s₁.setTop (mkF m 2 #[.val (.ref a1), .val (.ref a2)] [(.ref a1), (.ref a1)]))
  obtain ⟨T3, X3, e3, st3⟩ := getF X0 hx hZ hown (host := "") (Or.inl (hw _ (List.mem_of_getElem? (i := 106) rfl))) (Via.of (hw _ (List.mem_of_getElem? (i := 107) rfl))) e0 F_modCount_a1 (g := (mkF m 2 #[.val (.ref a1), .val (.ref a2)] [(.ref a1), (.ref a1)])) rfl rfl (hb hby d14_2)
  refine Go.step st3 ?_
  show Go p e below _ (T3.setTop (mkF m 5 #[.val (.ref a1), .val (.ref a2)] [(.int w_modCount_a1), (.ref a1)]))
  refine Go.step (fun t k => XS.iconst X3.here hx rfl (hb hby d14_5)  k) ?_
  show Go p e below _ (T3.setTop (mkF m 6 #[.val (.ref a1), .val (.ref a2)] [(.int (1 : Int32)), (.int w_modCount_a1), (.ref a1)]))
  refine Go.step (fun t k => XS.iadd X3.here hx rfl (hb hby d14_6) rfl k) ?_
  show Go p e below _ (T3.setTop (mkF m 7 #[.val (.ref a1), .val (.ref a2)] [(.int (w_modCount_a1 + (1 : Int32))), (.ref a1)]))
  obtain ⟨T4, h4, X4, e4, W4, st4⟩ := putF X3 hx hZ hown (host := "") (Or.inl (hw _ (List.mem_of_getElem? (i := 106) rfl))) (Via.of (hw _ (List.mem_of_getElem? (i := 107) rfl))) e3 F_modCount_a1 E_a1 (Or.inl (hw _ (List.mem_of_getElem? (i := 53) rfl))) (hw _ (List.mem_of_getElem? (i := 34) rfl)) (ty := .int) (by decide) rfl rfl (g := (mkF m 7 #[.val (.ref a1), .val (.ref a2)] [(.int (w_modCount_a1 + (1 : Int32))), (.ref a1)])) rfl rfl (hb hby d14_7)
  refine Go.step st4 ?_
  have N4 := Fr.snoc X4 N0 g_a1
  have E_a1_4 := E_a1.wr W4
  have E_a2_4 := E_a2.wr W4
  have F_size_a1_4 := F_size_a1.other W4 (Or.inr (slot_ne (Or.inl (hw _ (List.mem_of_getElem? (i := 80) rfl))) (Or.inl (hw _ (List.mem_of_getElem? (i := 53) rfl))) (by decide) (t := .int) (t' := .int) (by decide) (by decide)))
  have F_elementData_a1_4 := F_elementData_a1.other W4 (Or.inr (slot_ne (Or.inl (hw _ (List.mem_of_getElem? (i := 56) rfl))) (Or.inl (hw _ (List.mem_of_getElem? (i := 53) rfl))) (by decide) (t := (.array (.object "java/lang/Object"))) (t' := .int) (by decide) (by decide)))
  have A_oD_4 := A_oD.other W4 hne_oD_a1
  have O4 := hO.wr W4 g_a1
  have Z4 := Nat.le_trans Z0 (Keep.of_wr W4).1
  have KK4 : Keep h0 h4 [a1] := KK0.wr W4 (Or.inl (by simp))
  clear E_a1 E_a2 F_size_a1 F_elementData_a1 A_oD hO Z0 KK0
  have F_modCount_a1_4 := F_modCount_a1.same W4
  show Go p e below _ (T4.setTop (mkF m 10 #[.val (.ref a1), .val (.ref a2)] []))
  refine Go.step (fun t k => XS.aloadN X4.here hx rfl (hb hby d14_10) rfl rfl k) ?_
  show Go p e below _ (T4.setTop (mkF m 11 #[.val (.ref a1), .val (.ref a2)] [(.ref a1)]))
  refine Go.step (fun t k => XS.aloadN X4.here hx rfl (hb hby d14_11) rfl rfl k) ?_
  show Go p e below _ (T4.setTop (mkF m 12 #[.val (.ref a1), .val (.ref a2)] [(.ref a2), (.ref a1)]))
  refine Go.step (fun t k => XS.aloadN X4.here hx rfl (hb hby d14_12) rfl rfl k) ?_
  show Go p e below _ (T4.setTop (mkF m 13 #[.val (.ref a1), .val (.ref a2)] [(.ref a1), (.ref a2), (.ref a1)]))
  obtain ⟨T5, X5, e5, st5⟩ := getF X4 hx hZ hown (host := "") (Or.inl (hw _ (List.mem_of_getElem? (i := 55) rfl))) Via.refl e4 F_elementData_a1_4 (g := (mkF m 13 #[.val (.ref a1), .val (.ref a2)] [(.ref a1), (.ref a2), (.ref a1)])) rfl rfl (hb hby d14_13)
  refine Go.step st5 ?_
  show Go p e below _ (T5.setTop (mkF m 16 #[.val (.ref a1), .val (.ref a2)] [(.ref oD), (.ref a2), (.ref a1)]))
  refine Go.step (fun t k => XS.aloadN X5.here hx rfl (hb hby d14_16) rfl rfl k) ?_
  show Go p e below _ (T5.setTop (mkF m 17 #[.val (.ref a1), .val (.ref a2)] [(.ref a1), (.ref oD), (.ref a2), (.ref a1)]))
  obtain ⟨T6, X6, e6, st6⟩ := getF X5 hx hZ hown (host := "") (Or.inl (hw _ (List.mem_of_getElem? (i := 79) rfl))) Via.refl e5 F_size_a1_4 (g := (mkF m 17 #[.val (.ref a1), .val (.ref a2)] [(.ref a1), (.ref oD), (.ref a2), (.ref a1)])) rfl rfl (hb hby d14_17)
  refine Go.step st6 ?_
  show Go p e below _ (T6.setTop (mkF m 20 #[.val (.ref a1), .val (.ref a2)] [(.int (0 : Int32)), (.ref oD), (.ref a2), (.ref a1)]))
  obtain ⟨cq7, q7, q7'⟩ := E_a1_4.cell
  obtain ⟨_, _, ⟨T7, L7, k7, n7⟩, -, X7, ⟨Lc7, hQ7, l7, y7, z7⟩, st7⟩ := X6.privateBack hx (y := (⟨"java/util/ArrayList", "add", "(Ljava/lang/Object;[Ljava/lang/Object;I)V"⟩ : MethodName)) hown (mvT hZ (hw _ (List.mem_of_getElem? (i := 108) rfl))) (mvT hZ (hw _ (List.mem_of_getElem? (i := 109) rfl))) (mvT hZ (hw _ (List.mem_of_getElem? (i := 111) rfl))) (Cond.privateMethod_at (mvP hZ (hw _ (List.mem_of_getElem? (i := 110) rfl)) (args := #[]))) (mvT hZ (hw _ (List.mem_of_getElem? (i := 112) rfl))) (by decide) (backOf (W := 0) (rm15_0 l Z a0 hw [] a1 a2 oD (.int (w_modCount_a1 + (1 : Int32))) h4 n0 Z4 E_a1_4 E_a2_4 F_size_a1_4 F_elementData_a1_4 A_oD_4 F_modCount_a1_4 S_DEFAULTCAPACITY_EMPTY_ELEMENTDATA A_DEFAULTCAPACITY_EMPTY_ELEMENTDATA O4 g_a1) hZ (hw _ (List.mem_of_getElem? (i := 112) rfl)) (hw _ (List.mem_of_getElem? (i := 35) rfl)) (by decide) (by decide)) (g := (mkF m 20 #[.val (.ref a1), .val (.ref a2)] [(.int (0 : Int32)), (.ref oD), (.ref a2), (.ref a1)])) rfl (by rw [hml]; rfl) (Steps.refl _) (a := a1) (by rw [e6]; exact q7) q7' (argsL := [(.ref a2), (.ref oD), (.int (0 : Int32))]) (rest := []) (lenOf pd_7 rfl) rfl (by show 2 * 0 + _ ≤ _; exact Nat.le_of_eq rfl) (hb hby d14_20) (fun _ _ => ⟨rfl, e6, (by decide : 0 + 1 ≤ _), (by decide : 0 + 10 ≤ _)⟩)
  dsimp only [Pt.U, Pt.locs, Pt.cells, Pt.slots] at X7 l7 y7 z7 st7 hQ7
  subst l7 y7 z7
  obtain ⟨b7_0, rfl, N7q, K7, sz7_0, Q7_0, Q7_1, Q7_2, Q7_3, Q7_4⟩ := hQ7
  have N7 := Fr.app N4 N7q
  have g_b7_0 : n0 ≤ b7_0 := Nat.le_trans Z4 sz7_0
  have sz_b7_0 : h0.size ≤ b7_0 := Nat.le_trans KK4.1 sz7_0
  have ne_a1_b7_0 : a1 ≠ b7_0 := Nat.ne_of_lt (Nat.lt_of_lt_of_le E_a1_4.lt sz7_0)
  have ne_a2_b7_0 : a2 ≠ b7_0 := Nat.ne_of_lt (Nat.lt_of_lt_of_le E_a2_4.lt sz7_0)
  have ne_oD_b7_0 : oD ≠ b7_0 := Nat.ne_of_lt (Nat.lt_of_lt_of_le A_oD_4.lt sz7_0)
  have E_a1_7 := E_a1_4.keep K7
  have E_a2_7 := E_a2_4.keep K7
  have A_oD_7 := A_oD_4.keep K7 (ninS (O4.ne A_DEFAULTCAPACITY_EMPTY_ELEMENTDATA.lt g_a1) nin0)
  have O7 := O4.keep K7 (allS g_a1 all0)
  have Z7 := Nat.le_trans Z4 K7.1
  have KK7 : Keep h0 T7.heap [a1] := KK4.trans K7 (allS (Or.inl (by simp)) all0)
  clear E_a1_4 E_a2_4 A_oD_4 O4 Z4 KK4 K7
  refine Go.trans st7 ?_
  show Go p e below _ (T7.setTop (mkF m 23 #[.val (.ref a1), .val (.ref a2)] []))
  refine Go.step (fun t k => XS.iconst X7.here hx rfl (hb hby d14_23)  k) ?_
  show Go p e below _ (T7.setTop (mkF m 24 #[.val (.ref a1), .val (.ref a2)] [(.int (1 : Int32))]))
  refine retGN X7 hx Bd.notSynchronized Bd.returns (t := .boolean) (by simp) (z' := (1 : Int32)) rfl (hb hby d14_24) ?_ (by decide) (by decide)
  show Q14_0 Z a1 a2 oD w_modCount_a1 h0 n0 _ T7.heap _
  exact ⟨b7_0, rfl, N7, KK7, sz_b7_0, Q7_0, Q7_1, Q7_2, Q7_3, Q7_4⟩
theorem ef_15_1 (m : MethodId) (a1 : Addr) (a2 : Addr) (a3 : Addr) : entryFrame m #[(.ref a1), (.ref a2), (.ref a3), (.int (1 : Int32))] 4 = mkF m 0 #[.val (.ref a1), .val (.ref a2), .val (.ref a3), .val (.int (1 : Int32))] [] := by first | (simp [entryFrame, mkF, argsToLocals, Value.category]; done) | rfl
def Q15_1 (Z : State) (a1 : Addr) (a2 : Addr) (a3 : Addr) (gf3 : Nat → Value) (u_modCount_a1 : Value) (u_elementData_a1 : Value) (h0 : Heap) (n0 : Nat) (v : Option Value) (h : Heap) (L : List Loc) : Prop := v = none ∧ Fr n0 L ∧ Keep h0 h [a3, a1] ∧ Exa Z h a1 "java/util/ArrayList" ∧ Fld Z h a1 "java/util/ArrayList" "size" "I" (.int (2 : Int32)) ∧ Fld Z h a1 "java/util/ArrayList" "elementData" "[Ljava/lang/Object;" u_elementData_a1 ∧ Fld Z h a1 "java/util/AbstractList" "modCount" "I" u_modCount_a1 ∧ RAry Z h a3 (.object "java/lang/Object") "java/lang/Object" 10 (upA gf3 1 (.ref a2))
set_option maxRecDepth 65536 in
set_option maxHeartbeats 40000000 in
theorem rm15_1 (l : Launch) (Z : State) (a0 : Array Value) (hw : ∀ d ∈ tables_1, d.before a0 Z = true) (ws : List Jvm.Cond) (a1 : Addr) (a2 : Addr) (a3 : Addr) (gf3 : Nat → Value) (u_modCount_a1 : Value) (u_elementData_a1 : Value) (h0 : Heap) (n0 : Nat) (Z0 : n0 ≤ h0.size) (E_a1 : Exa Z h0 a1 "java/util/ArrayList") (E_a2 : Exa Z h0 a2 "com/example/dataflow_to_dispatch/dataflowtodispatch/model/document/XmlElement") (F_size_a1 : Fld Z h0 a1 "java/util/ArrayList" "size" "I" (.int (1 : Int32))) (F_elementData_a1 : Fld Z h0 a1 "java/util/ArrayList" "elementData" "[Ljava/lang/Object;" u_elementData_a1) (F_modCount_a1 : Fld Z h0 a1 "java/util/AbstractList" "modCount" "I" u_modCount_a1) (A_a3 : RAry Z h0 a3 (.object "java/lang/Object") "java/lang/Object" 10 gf3) (g_a3 : n0 ≤ a3) (hne_a1_a3 : a1 ≠ a3) (g_a1 : n0 ≤ a1) (hne_a3_a1 : a3 ≠ a1) :
    MetFree l (⟨"java/util/ArrayList", "add", "(Ljava/lang/Object;[Ljava/lang/Object;I)V"⟩ : MethodName) (head1 (Jvm.Cond.code (⟨"java/util/ArrayList", "add", "(Ljava/lang/Object;[Ljava/lang/Object;I)V"⟩ : MethodName) jdk_38_method_24_code 4 none :: ws) ({ frames := 0, cells := 0, slots := 0, locals := 0 } : Room)) (fun a U => a = #[(.ref a1), (.ref a2), (.ref a3), (.int (1 : Int32))] ∧ Z.Warmed39 U.vm ∧ U.heap = h0) (fun _ _ _ _ _ => True) (fun _ U o U' => ∃ v L, o = .returned v ∧ Q15_1 Z a1 a2 a3 gf3 u_modCount_a1 u_elementData_a1 h0 n0 v U'.heap L ∧ FrameEnd U o U' L ({ frames := 0, cells := 0, slots := 0, locals := 0 } : Room).cells ({ frames := 0, cells := 0, slots := 0, locals := 0 } : Room).slots) := by
  refine MetFree.of_bodySF (plainFor_of_name pn_4) hisR ?_
  intro p e s m args below meth c s₁ Bd hml0 hP hK
  obtain ⟨rfl, hZ, hh⟩ := hP
  have hx := Bd.exec
  have hby := Bd.bytes
  have hml : c.maxLocals = 4 := hml0
  have hown : s.vm.findClass "java/util/ArrayList" = some m.cls := findClass_of_methodNamed Bd.named
  have hnm := (name_of_methodNamed Bd.named Bd.method).1
  have X0 : Stand p l e ({ frames := 0, cells := 0, slots := 0, locals := 0 } : Room) s m #[(.ref a1), (.ref a2), (.ref a3), (.int (1 : Int32))] below meth c s₁ [] 0 0 := Stand.of_body Bd
  have e0 : s₁.heap = h0 := by rw [← hh, Bd.state]; rfl
  have N0 := Fr.nil n0
  refine Go.done (Go.step (fun t k => castTop (ef_15_1 m a1 a2 a3) k) ?_)
  have KK0 : Keep h0 h0 [a3, a1] := Keep.refl _ _
  show Go p e below _ (s₁.setTop (mkF m 0 #[.val (.ref a1), .val (.ref a2), .val (.ref a3), .val (.int (1 : Int32))] []))
  refine Go.step (fun t k => XS.iloadN X0.here hx rfl (hb hby d15_0) rfl k) ?_
  show Go p e below _ (s₁.setTop (mkF m 1 #[.val (.ref a1), .val (.ref a2), .val (.ref a3), .val (.int (1 : Int32))] [(.int (1 : Int32))]))
  refine Go.step (fun t k => XS.aloadN X0.here hx rfl (hb hby d15_1) rfl rfl k) ?_
  show Go p e below _ (s₁.setTop (mkF m 2 #[.val (.ref a1), .val (.ref a2), .val (.ref a3), .val (.int (1 : Int32))] [(.ref a3), (.int (1 : Int32))]))
  refine Go.step (lenA X0 hx hZ e0 A_a3.ary (g := (mkF m 2 #[.val (.ref a1), .val (.ref a2), .val (.ref a3), .val (.int (1 : Int32))] [(.ref a3), (.int (1 : Int32))])) rfl rfl (hb hby d15_2)) ?_
  show Go p e below _ (s₁.setTop (mkF m 3 #[.val (.ref a1), .val (.ref a2), .val (.ref a3), .val (.int (1 : Int32))] [(.int (10 : Int32)), (.int (1 : Int32))]))
  refine Go.step (fun t k => XS.icmpYes X0.here hx rfl (pc0 := 3) (pc' := 11) rfl (hb hby d15_3) rfl (feq (by decide : ¬ ((1 : Int32) = (10 : Int32)))).2 (by decide) (by decide) k) ?_
  show Go p e below _ (s₁.setTop (mkF m 11 #[.val (.ref a1), .val (.ref a2), .val (.ref a3), .val (.int (1 : Int32))] []))
  refine Go.step (fun t k => XS.aloadN X0.here hx rfl (hb hby d15_11) rfl rfl k) ?_
  show Go p e below _ (s₁.setTop (mkF m 12 #[.val (.ref a1), .val (.ref a2), .val (.ref a3), .val (.int (1 : Int32))] [(.ref a3)]))
  refine Go.step (fun t k => XS.iloadN X0.here hx rfl (hb hby d15_12) rfl k) ?_
  show Go p e below _ (s₁.setTop (mkF m 13 #[.val (.ref a1), .val (.ref a2), .val (.ref a3), .val (.int (1 : Int32))] [(.int (1 : Int32)), (.ref a3)]))
  refine Go.step (fun t k => XS.aloadN X0.here hx rfl (hb hby d15_13) rfl rfl k) ?_
  show Go p e below _ (s₁.setTop (mkF m 14 #[.val (.ref a1), .val (.ref a2), .val (.ref a3), .val (.int (1 : Int32))] [(.ref a2), (.int (1 : Int32)), (.ref a3)]))
  obtain ⟨cl5, Ar5, in5, -⟩ := A_a3.hin (j := (1 : Int32)) (by decide) (by decide)
  obtain ⟨T5, h5, X5, e5, W5, st5⟩ := Jvm.RoadKit.stR X0 hx hZ e0 Ar5 in5 rfl (A_a3.sto (Ins.of_exa E_a2 (hw _ (List.mem_of_getElem? (i := 129) rfl)))) (g := (mkF m 14 #[.val (.ref a1), .val (.ref a2), .val (.ref a3), .val (.int (1 : Int32))] [(.ref a2), (.int (1 : Int32)), (.ref a3)])) rfl rfl (hb hby d15_14)
  refine Go.step st5 ?_
  have N5 := Fr.snoc X5 N0 g_a3
  have E_a1_5 := E_a1.wr W5
  have E_a2_5 := E_a2.wr W5
  have F_size_a1_5 := F_size_a1.other W5 (Or.inl hne_a1_a3)
  have F_elementData_a1_5 := F_elementData_a1.other W5 (Or.inl hne_a1_a3)
  have F_modCount_a1_5 := F_modCount_a1.other W5 (Or.inl hne_a1_a3)
  have Z5 := Nat.le_trans Z0 (Keep.of_wr W5).1
  have KK5 : Keep h0 h5 [a3, a1] := KK0.wr W5 (Or.inl (by simp))
  clear E_a1 E_a2 F_size_a1 F_elementData_a1 F_modCount_a1 Z0 KK0
  have A_a3_5 : RAry Z h5 a3 (.object "java/lang/Object") "java/lang/Object" 10 (upA gf3 1 (.ref a2)) := A_a3.set W5 (by decide)
  show Go p e below _ (T5.setTop (mkF m 15 #[.val (.ref a1), .val (.ref a2), .val (.ref a3), .val (.int (1 : Int32))] []))
  refine Go.step (fun t k => XS.aloadN X5.here hx rfl (hb hby d15_15) rfl rfl k) ?_
  show Go p e below _ (T5.setTop (mkF m 16 #[.val (.ref a1), .val (.ref a2), .val (.ref a3), .val (.int (1 : Int32))] [(.ref a1)]))
  refine Go.step (fun t k => XS.iloadN X5.here hx rfl (hb hby d15_16) rfl k) ?_
  show Go p e below _ (T5.setTop (mkF m 17 #[.val (.ref a1), .val (.ref a2), .val (.ref a3), .val (.int (1 : Int32))] [(.int (1 : Int32)), (.ref a1)]))
  refine Go.step (fun t k => XS.iconst X5.here hx rfl (hb hby d15_17)  k) ?_
  show Go p e below _ (T5.setTop (mkF m 18 #[.val (.ref a1), .val (.ref a2), .val (.ref a3), .val (.int (1 : Int32))] [(.int (1 : Int32)), (.int (1 : Int32)), (.ref a1)]))
  refine Go.step (fun t k => XS.iadd X5.here hx rfl (hb hby d15_18) rfl k) ?_
  show Go p e below _ (T5.setTop (mkF m 19 #[.val (.ref a1), .val (.ref a2), .val (.ref a3), .val (.int (1 : Int32))] [(.int (2 : Int32)), (.ref a1)]))
  obtain ⟨T6, h6, X6, e6, W6, st6⟩ := putF X5 hx hZ hown (host := "") (Or.inl (hw _ (List.mem_of_getElem? (i := 79) rfl))) Via.refl e5 F_size_a1_5 E_a1_5 (Or.inl (hw _ (List.mem_of_getElem? (i := 80) rfl))) (hw _ (List.mem_of_getElem? (i := 34) rfl)) (ty := .int) (by decide) rfl rfl (g := (mkF m 19 #[.val (.ref a1), .val (.ref a2), .val (.ref a3), .val (.int (1 : Int32))] [(.int (2 : Int32)), (.ref a1)])) rfl rfl (hb hby d15_19)
  refine Go.step st6 ?_
  have N6 := Fr.snoc X6 N5 g_a1
  have E_a1_6 := E_a1_5.wr W6
  have E_a2_6 := E_a2_5.wr W6
  have F_elementData_a1_6 := F_elementData_a1_5.other W6 (Or.inr (slot_ne (Or.inl (hw _ (List.mem_of_getElem? (i := 56) rfl))) (Or.inl (hw _ (List.mem_of_getElem? (i := 80) rfl))) (by decide) (t := (.array (.object "java/lang/Object"))) (t' := .int) (by decide) (by decide)))
  have F_modCount_a1_6 := F_modCount_a1_5.other W6 (Or.inr (slot_ne (Or.inl (hw _ (List.mem_of_getElem? (i := 53) rfl))) (Or.inl (hw _ (List.mem_of_getElem? (i := 80) rfl))) (by decide) (t := .int) (t' := .int) (by decide) (by decide)))
  have A_a3_6 := A_a3_5.other W6 hne_a3_a1
  have Z6 := Nat.le_trans Z5 (Keep.of_wr W6).1
  have KK6 : Keep h0 h6 [a3, a1] := KK5.wr W6 (Or.inl (by simp))
  clear E_a1_5 E_a2_5 F_elementData_a1_5 F_modCount_a1_5 A_a3_5 Z5 KK5
  have F_size_a1_6 := F_size_a1_5.same W6
  show Go p e below _ (T6.setTop (mkF m 22 #[.val (.ref a1), .val (.ref a2), .val (.ref a3), .val (.int (1 : Int32))] []))
  refine retGV X6 hx Bd.notSynchronized Bd.returns (hb hby d15_22) ?_ (by decide) (by decide)
  show Q15_1 Z a1 a2 a3 gf3 u_modCount_a1 u_elementData_a1 h0 n0 _ T6.heap _
  rw [e6]
  exact ⟨rfl, N6, KK6, E_a1_6, F_size_a1_6, F_elementData_a1_6, F_modCount_a1_6, A_a3_6⟩
theorem ef_14_1 (m : MethodId) (a1 : Addr) (a2 : Addr) : entryFrame m #[(.ref a1), (.ref a2)] 2 = mkF m 0 #[.val (.ref a1), .val (.ref a2)] [] := by first | (simp [entryFrame, mkF, argsToLocals, Value.category]; done) | rfl
def Q14_1 (Z : State) (a1 : Addr) (a2 : Addr) (o_el : Addr) (g_el : Nat → Value) (w_modCount_a1 : Int32) (h0 : Heap) (n0 : Nat) (v : Option Value) (h : Heap) (L : List Loc) : Prop := v = some (.int (1 : Int32)) ∧ Fr n0 L ∧ Keep h0 h [a1, o_el] ∧ Exa Z h a1 "java/util/ArrayList" ∧ Fld Z h a1 "java/util/ArrayList" "size" "I" (.int (2 : Int32)) ∧ Fld Z h a1 "java/util/ArrayList" "elementData" "[Ljava/lang/Object;" (.ref o_el) ∧ Fld Z h a1 "java/util/AbstractList" "modCount" "I" (.int (w_modCount_a1 + (1 : Int32))) ∧ RAry Z h o_el (.object "java/lang/Object") "java/lang/Object" 10 (upA g_el 1 (.ref a2))
set_option maxRecDepth 65536 in
set_option maxHeartbeats 40000000 in
theorem rm14_1 (l : Launch) (Z : State) (a0 : Array Value) (hw : ∀ d ∈ tables_1, d.before a0 Z = true) (ws : List Jvm.Cond) (a1 : Addr) (a2 : Addr) (o_el : Addr) (g_el : Nat → Value) (w_modCount_a1 : Int32) (h0 : Heap) (n0 : Nat) (Z0 : n0 ≤ h0.size) (E_a1 : Exa Z h0 a1 "java/util/ArrayList") (E_a2 : Exa Z h0 a2 "com/example/dataflow_to_dispatch/dataflowtodispatch/model/document/XmlElement") (F_size_a1 : Fld Z h0 a1 "java/util/ArrayList" "size" "I" (.int (1 : Int32))) (F_elementData_a1 : Fld Z h0 a1 "java/util/ArrayList" "elementData" "[Ljava/lang/Object;" (.ref o_el)) (A_o_el : RAry Z h0 o_el (.object "java/lang/Object") "java/lang/Object" 10 g_el) (F_modCount_a1 : Fld Z h0 a1 "java/util/AbstractList" "modCount" "I" (.int w_modCount_a1)) (g_a1 : n0 ≤ a1) (hne_o_el_a1 : o_el ≠ a1) (g_o_el : n0 ≤ o_el) (hne_a1_o_el : a1 ≠ o_el) :
    MetFree l (⟨"java/util/ArrayList", "add", "(Ljava/lang/Object;)Z"⟩ : MethodName) (head1 (Jvm.Cond.code (⟨"java/util/ArrayList", "add", "(Ljava/lang/Object;)Z"⟩ : MethodName) jdk_38_method_25_code 2 (some .boolean) :: ws) ({ frames := 1, cells := 0, slots := 0, locals := 15 } : Room)) (fun a U => a = #[(.ref a1), (.ref a2)] ∧ Z.Warmed39 U.vm ∧ U.heap = h0) (fun _ _ _ _ _ => True) (fun _ U o U' => ∃ v L, o = .returned v ∧ Q14_1 Z a1 a2 o_el g_el w_modCount_a1 h0 n0 v U'.heap L ∧ FrameEnd U o U' L ({ frames := 1, cells := 0, slots := 0, locals := 15 } : Room).cells ({ frames := 1, cells := 0, slots := 0, locals := 15 } : Room).slots) := by
  refine MetFree.of_bodySF (plainFor_of_name pn_4) hisR ?_
  intro p e s m args below meth c s₁ Bd hml0 hP hK
  obtain ⟨rfl, hZ, hh⟩ := hP
  have hx := Bd.exec
  have hby := Bd.bytes
  have hml : c.maxLocals = 2 := hml0
  have hown : s.vm.findClass "java/util/ArrayList" = some m.cls := findClass_of_methodNamed Bd.named
  have hnm := (name_of_methodNamed Bd.named Bd.method).1
  have X0 : Stand p l e ({ frames := 1, cells := 0, slots := 0, locals := 15 } : Room) s m #[(.ref a1), (.ref a2)] below meth c s₁ [] 0 0 := Stand.of_body Bd
  have e0 : s₁.heap = h0 := by rw [← hh, Bd.state]; rfl
  have N0 := Fr.nil n0
  refine Go.done (Go.step (fun t k => castTop (ef_14_1 m a1 a2) k) ?_)
  have KK0 : Keep h0 h0 [a1, o_el] := Keep.refl _ _
  show Go p e below _ (s₁.setTop (mkF m 0 #[.val (.ref a1), .val (.ref a2)] []))
  refine Go.step (fun t k => XS.aloadN X0.here hx rfl (hb hby d14_0) rfl rfl k) ?_
  show Go p e below _ (s₁.setTop (mkF m 1 #[.val (.ref a1), .val (.ref a2)] [(.ref a1)]))
  refine Go.step (fun t k => XS.dup X0.here hx rfl (hb hby d14_1) rfl rfl k) ?_
  show Go p e below _ (s₁.setTop (mkF m 2 #[.val (.ref a1), .val (.ref a2)] [(.ref a1), (.ref a1)]))
  obtain ⟨T3, X3, e3, st3⟩ := getF X0 hx hZ hown (host := "") (Or.inl (hw _ (List.mem_of_getElem? (i := 106) rfl))) (Via.of (hw _ (List.mem_of_getElem? (i := 107) rfl))) e0 F_modCount_a1 (g := (mkF m 2 #[.val (.ref a1), .val (.ref a2)] [(.ref a1), (.ref a1)])) rfl rfl (hb hby d14_2)
  refine Go.step st3 ?_
  show Go p e below _ (T3.setTop (mkF m 5 #[.val (.ref a1), .val (.ref a2)] [(.int w_modCount_a1), (.ref a1)]))
  refine Go.step (fun t k => XS.iconst X3.here hx rfl (hb hby d14_5)  k) ?_
  show Go p e below _ (T3.setTop (mkF m 6 #[.val (.ref a1), .val (.ref a2)] [(.int (1 : Int32)), (.int w_modCount_a1), (.ref a1)]))
  refine Go.step (fun t k => XS.iadd X3.here hx rfl (hb hby d14_6) rfl k) ?_
  show Go p e below _ (T3.setTop (mkF m 7 #[.val (.ref a1), .val (.ref a2)] [(.int (w_modCount_a1 + (1 : Int32))), (.ref a1)]))
  obtain ⟨T4, h4, X4, e4, W4, st4⟩ := putF X3 hx hZ hown (host := "") (Or.inl (hw _ (List.mem_of_getElem? (i := 106) rfl))) (Via.of (hw _ (List.mem_of_getElem? (i := 107) rfl))) e3 F_modCount_a1 E_a1 (Or.inl (hw _ (List.mem_of_getElem? (i := 53) rfl))) (hw _ (List.mem_of_getElem? (i := 34) rfl)) (ty := .int) (by decide) rfl rfl (g := (mkF m 7 #[.val (.ref a1), .val (.ref a2)] [(.int (w_modCount_a1 + (1 : Int32))), (.ref a1)])) rfl rfl (hb hby d14_7)
  refine Go.step st4 ?_
  have N4 := Fr.snoc X4 N0 g_a1
  have E_a1_4 := E_a1.wr W4
  have E_a2_4 := E_a2.wr W4
  have F_size_a1_4 := F_size_a1.other W4 (Or.inr (slot_ne (Or.inl (hw _ (List.mem_of_getElem? (i := 80) rfl))) (Or.inl (hw _ (List.mem_of_getElem? (i := 53) rfl))) (by decide) (t := .int) (t' := .int) (by decide) (by decide)))
  have F_elementData_a1_4 := F_elementData_a1.other W4 (Or.inr (slot_ne (Or.inl (hw _ (List.mem_of_getElem? (i := 56) rfl))) (Or.inl (hw _ (List.mem_of_getElem? (i := 53) rfl))) (by decide) (t := (.array (.object "java/lang/Object"))) (t' := .int) (by decide) (by decide)))
  have A_o_el_4 := A_o_el.other W4 hne_o_el_a1
  have Z4 := Nat.le_trans Z0 (Keep.of_wr W4).1
  have KK4 : Keep h0 h4 [a1, o_el] := KK0.wr W4 (Or.inl (by simp))
  clear E_a1 E_a2 F_size_a1 F_elementData_a1 A_o_el Z0 KK0
  have F_modCount_a1_4 := F_modCount_a1.same W4
  show Go p e below _ (T4.setTop (mkF m 10 #[.val (.ref a1), .val (.ref a2)] []))
  refine Go.step (fun t k => XS.aloadN X4.here hx rfl (hb hby d14_10) rfl rfl k) ?_
  show Go p e below _ (T4.setTop (mkF m 11 #[.val (.ref a1), .val (.ref a2)] [(.ref a1)]))
  refine Go.step (fun t k => XS.aloadN X4.here hx rfl (hb hby d14_11) rfl rfl k) ?_
  show Go p e below _ (T4.setTop (mkF m 12 #[.val (.ref a1), .val (.ref a2)] [(.ref a2), (.ref a1)]))
  refine Go.step (fun t k => XS.aloadN X4.here hx rfl (hb hby d14_12) rfl rfl k) ?_
  show Go p e below _ (T4.setTop (mkF m 13 #[.val (.ref a1), .val (.ref a2)] [(.ref a1), (.ref a2), (.ref a1)]))
  obtain ⟨T5, X5, e5, st5⟩ := getF X4 hx hZ hown (host := "") (Or.inl (hw _ (List.mem_of_getElem? (i := 55) rfl))) Via.refl e4 F_elementData_a1_4 (g := (mkF m 13 #[.val (.ref a1), .val (.ref a2)] [(.ref a1), (.ref a2), (.ref a1)])) rfl rfl (hb hby d14_13)
  refine Go.step st5 ?_
  show Go p e below _ (T5.setTop (mkF m 16 #[.val (.ref a1), .val (.ref a2)] [(.ref o_el), (.ref a2), (.ref a1)]))
  refine Go.step (fun t k => XS.aloadN X5.here hx rfl (hb hby d14_16) rfl rfl k) ?_
  show Go p e below _ (T5.setTop (mkF m 17 #[.val (.ref a1), .val (.ref a2)] [(.ref a1), (.ref o_el), (.ref a2), (.ref a1)]))
  obtain ⟨T6, X6, e6, st6⟩ := getF X5 hx hZ hown (host := "") (Or.inl (hw _ (List.mem_of_getElem? (i := 79) rfl))) Via.refl e5 F_size_a1_4 (g := (mkF m 17 #[.val (.ref a1), .val (.ref a2)] [(.ref a1), (.ref o_el), (.ref a2), (.ref a1)])) rfl rfl (hb hby d14_17)
  refine Go.step st6 ?_
  show Go p e below _ (T6.setTop (mkF m 20 #[.val (.ref a1), .val (.ref a2)] [(.int (1 : Int32)), (.ref o_el), (.ref a2), (.ref a1)]))
  obtain ⟨cq7, q7, q7'⟩ := E_a1_4.cell
  obtain ⟨_, _, ⟨T7, L7, k7, n7⟩, -, X7, ⟨Lc7, hQ7, l7, y7, z7⟩, st7⟩ := X6.privateBack hx (y := (⟨"java/util/ArrayList", "add", "(Ljava/lang/Object;[Ljava/lang/Object;I)V"⟩ : MethodName)) hown (mvT hZ (hw _ (List.mem_of_getElem? (i := 108) rfl))) (mvT hZ (hw _ (List.mem_of_getElem? (i := 109) rfl))) (mvT hZ (hw _ (List.mem_of_getElem? (i := 111) rfl))) (Cond.privateMethod_at (mvP hZ (hw _ (List.mem_of_getElem? (i := 110) rfl)) (args := #[]))) (mvT hZ (hw _ (List.mem_of_getElem? (i := 112) rfl))) (by decide) (backOf (W := 0) (rm15_1 l Z a0 hw [] a1 a2 o_el g_el (.int (w_modCount_a1 + (1 : Int32))) (.ref o_el) h4 n0 Z4 E_a1_4 E_a2_4 F_size_a1_4 F_elementData_a1_4 F_modCount_a1_4 A_o_el_4 g_o_el hne_a1_o_el g_a1 hne_o_el_a1) hZ (hw _ (List.mem_of_getElem? (i := 112) rfl)) (hw _ (List.mem_of_getElem? (i := 35) rfl)) (by decide) (by decide)) (g := (mkF m 20 #[.val (.ref a1), .val (.ref a2)] [(.int (1 : Int32)), (.ref o_el), (.ref a2), (.ref a1)])) rfl (by rw [hml]; rfl) (Steps.refl _) (a := a1) (by rw [e6]; exact q7) q7' (argsL := [(.ref a2), (.ref o_el), (.int (1 : Int32))]) (rest := []) (lenOf pd_7 rfl) rfl (by show 2 * 0 + _ ≤ _; exact Nat.le_of_eq rfl) (hb hby d14_20) (fun _ _ => ⟨rfl, e6, (by decide : 0 + 0 ≤ _), (by decide : 0 + 0 ≤ _)⟩)
  dsimp only [Pt.U, Pt.locs, Pt.cells, Pt.slots] at X7 l7 y7 z7 st7 hQ7
  subst l7 y7 z7
  obtain ⟨rfl, N7q, K7, Q7_0, Q7_1, Q7_2, Q7_3, Q7_4⟩ := hQ7
  have N7 := Fr.app N4 N7q
  have E_a1_7 := E_a1_4.keep K7
  have E_a2_7 := E_a2_4.keep K7
  have Z7 := Nat.le_trans Z4 K7.1
  have KK7 : Keep h0 T7.heap [a1, o_el] := KK4.trans K7 (allS (Or.inl (by simp)) (allS (Or.inl (by simp)) all0))
  clear E_a1_4 E_a2_4 Z4 KK4 K7
  refine Go.trans st7 ?_
  show Go p e below _ (T7.setTop (mkF m 23 #[.val (.ref a1), .val (.ref a2)] []))
  refine Go.step (fun t k => XS.iconst X7.here hx rfl (hb hby d14_23)  k) ?_
  show Go p e below _ (T7.setTop (mkF m 24 #[.val (.ref a1), .val (.ref a2)] [(.int (1 : Int32))]))
  refine retGN X7 hx Bd.notSynchronized Bd.returns (t := .boolean) (by simp) (z' := (1 : Int32)) rfl (hb hby d14_24) ?_ (by decide) (by decide)
  show Q14_1 Z a1 a2 o_el g_el w_modCount_a1 h0 n0 _ T7.heap _
  exact ⟨rfl, N7, KK7, Q7_0, Q7_1, Q7_2, Q7_3, Q7_4⟩
theorem ef_15_2 (m : MethodId) (a1 : Addr) (a2 : Addr) (a3 : Addr) : entryFrame m #[(.ref a1), (.ref a2), (.ref a3), (.int (2 : Int32))] 4 = mkF m 0 #[.val (.ref a1), .val (.ref a2), .val (.ref a3), .val (.int (2 : Int32))] [] := by first | (simp [entryFrame, mkF, argsToLocals, Value.category]; done) | rfl
def Q15_2 (Z : State) (a1 : Addr) (a2 : Addr) (a3 : Addr) (gf3 : Nat → Value) (u_modCount_a1 : Value) (u_elementData_a1 : Value) (h0 : Heap) (n0 : Nat) (v : Option Value) (h : Heap) (L : List Loc) : Prop := v = none ∧ Fr n0 L ∧ Keep h0 h [a3, a1] ∧ Exa Z h a1 "java/util/ArrayList" ∧ Fld Z h a1 "java/util/ArrayList" "size" "I" (.int (3 : Int32)) ∧ Fld Z h a1 "java/util/ArrayList" "elementData" "[Ljava/lang/Object;" u_elementData_a1 ∧ Fld Z h a1 "java/util/AbstractList" "modCount" "I" u_modCount_a1 ∧ RAry Z h a3 (.object "java/lang/Object") "java/lang/Object" 10 (upA gf3 2 (.ref a2))
set_option maxRecDepth 65536 in
set_option maxHeartbeats 40000000 in
theorem rm15_2 (l : Launch) (Z : State) (a0 : Array Value) (hw : ∀ d ∈ tables_1, d.before a0 Z = true) (ws : List Jvm.Cond) (a1 : Addr) (a2 : Addr) (a3 : Addr) (gf3 : Nat → Value) (u_modCount_a1 : Value) (u_elementData_a1 : Value) (h0 : Heap) (n0 : Nat) (Z0 : n0 ≤ h0.size) (E_a1 : Exa Z h0 a1 "java/util/ArrayList") (E_a2 : Exa Z h0 a2 "com/example/dataflow_to_dispatch/dataflowtodispatch/model/document/XmlElement") (F_size_a1 : Fld Z h0 a1 "java/util/ArrayList" "size" "I" (.int (2 : Int32))) (F_elementData_a1 : Fld Z h0 a1 "java/util/ArrayList" "elementData" "[Ljava/lang/Object;" u_elementData_a1) (F_modCount_a1 : Fld Z h0 a1 "java/util/AbstractList" "modCount" "I" u_modCount_a1) (A_a3 : RAry Z h0 a3 (.object "java/lang/Object") "java/lang/Object" 10 gf3) (g_a3 : n0 ≤ a3) (hne_a1_a3 : a1 ≠ a3) (g_a1 : n0 ≤ a1) (hne_a3_a1 : a3 ≠ a1) :
    MetFree l (⟨"java/util/ArrayList", "add", "(Ljava/lang/Object;[Ljava/lang/Object;I)V"⟩ : MethodName) (head1 (Jvm.Cond.code (⟨"java/util/ArrayList", "add", "(Ljava/lang/Object;[Ljava/lang/Object;I)V"⟩ : MethodName) jdk_38_method_24_code 4 none :: ws) ({ frames := 0, cells := 0, slots := 0, locals := 0 } : Room)) (fun a U => a = #[(.ref a1), (.ref a2), (.ref a3), (.int (2 : Int32))] ∧ Z.Warmed39 U.vm ∧ U.heap = h0) (fun _ _ _ _ _ => True) (fun _ U o U' => ∃ v L, o = .returned v ∧ Q15_2 Z a1 a2 a3 gf3 u_modCount_a1 u_elementData_a1 h0 n0 v U'.heap L ∧ FrameEnd U o U' L ({ frames := 0, cells := 0, slots := 0, locals := 0 } : Room).cells ({ frames := 0, cells := 0, slots := 0, locals := 0 } : Room).slots) := by
  refine MetFree.of_bodySF (plainFor_of_name pn_4) hisR ?_
  intro p e s m args below meth c s₁ Bd hml0 hP hK
  obtain ⟨rfl, hZ, hh⟩ := hP
  have hx := Bd.exec
  have hby := Bd.bytes
  have hml : c.maxLocals = 4 := hml0
  have hown : s.vm.findClass "java/util/ArrayList" = some m.cls := findClass_of_methodNamed Bd.named
  have hnm := (name_of_methodNamed Bd.named Bd.method).1
  have X0 : Stand p l e ({ frames := 0, cells := 0, slots := 0, locals := 0 } : Room) s m #[(.ref a1), (.ref a2), (.ref a3), (.int (2 : Int32))] below meth c s₁ [] 0 0 := Stand.of_body Bd
  have e0 : s₁.heap = h0 := by rw [← hh, Bd.state]; rfl
  have N0 := Fr.nil n0
  refine Go.done (Go.step (fun t k => castTop (ef_15_2 m a1 a2 a3) k) ?_)
  have KK0 : Keep h0 h0 [a3, a1] := Keep.refl _ _
  show Go p e below _ (s₁.setTop (mkF m 0 #[.val (.ref a1), .val (.ref a2), .val (.ref a3), .val (.int (2 : Int32))] []))
  refine Go.step (fun t k => XS.iloadN X0.here hx rfl (hb hby d15_0) rfl k) ?_
  show Go p e below _ (s₁.setTop (mkF m 1 #[.val (.ref a1), .val (.ref a2), .val (.ref a3), .val (.int (2 : Int32))] [(.int (2 : Int32))]))
  refine Go.step (fun t k => XS.aloadN X0.here hx rfl (hb hby d15_1) rfl rfl k) ?_
  show Go p e below _ (s₁.setTop (mkF m 2 #[.val (.ref a1), .val (.ref a2), .val (.ref a3), .val (.int (2 : Int32))] [(.ref a3), (.int (2 : Int32))]))
  refine Go.step (lenA X0 hx hZ e0 A_a3.ary (g := (mkF m 2 #[.val (.ref a1), .val (.ref a2), .val (.ref a3), .val (.int (2 : Int32))] [(.ref a3), (.int (2 : Int32))])) rfl rfl (hb hby d15_2)) ?_
  show Go p e below _ (s₁.setTop (mkF m 3 #[.val (.ref a1), .val (.ref a2), .val (.ref a3), .val (.int (2 : Int32))] [(.int (10 : Int32)), (.int (2 : Int32))]))
  refine Go.step (fun t k => XS.icmpYes X0.here hx rfl (pc0 := 3) (pc' := 11) rfl (hb hby d15_3) rfl (feq (by decide : ¬ ((2 : Int32) = (10 : Int32)))).2 (by decide) (by decide) k) ?_
  show Go p e below _ (s₁.setTop (mkF m 11 #[.val (.ref a1), .val (.ref a2), .val (.ref a3), .val (.int (2 : Int32))] []))
  refine Go.step (fun t k => XS.aloadN X0.here hx rfl (hb hby d15_11) rfl rfl k) ?_
  show Go p e below _ (s₁.setTop (mkF m 12 #[.val (.ref a1), .val (.ref a2), .val (.ref a3), .val (.int (2 : Int32))] [(.ref a3)]))
  refine Go.step (fun t k => XS.iloadN X0.here hx rfl (hb hby d15_12) rfl k) ?_
  show Go p e below _ (s₁.setTop (mkF m 13 #[.val (.ref a1), .val (.ref a2), .val (.ref a3), .val (.int (2 : Int32))] [(.int (2 : Int32)), (.ref a3)]))
  refine Go.step (fun t k => XS.aloadN X0.here hx rfl (hb hby d15_13) rfl rfl k) ?_
  show Go p e below _ (s₁.setTop (mkF m 14 #[.val (.ref a1), .val (.ref a2), .val (.ref a3), .val (.int (2 : Int32))] [(.ref a2), (.int (2 : Int32)), (.ref a3)]))
  obtain ⟨cl5, Ar5, in5, -⟩ := A_a3.hin (j := (2 : Int32)) (by decide) (by decide)
  obtain ⟨T5, h5, X5, e5, W5, st5⟩ := Jvm.RoadKit.stR X0 hx hZ e0 Ar5 in5 rfl (A_a3.sto (Ins.of_exa E_a2 (hw _ (List.mem_of_getElem? (i := 129) rfl)))) (g := (mkF m 14 #[.val (.ref a1), .val (.ref a2), .val (.ref a3), .val (.int (2 : Int32))] [(.ref a2), (.int (2 : Int32)), (.ref a3)])) rfl rfl (hb hby d15_14)
  refine Go.step st5 ?_
  have N5 := Fr.snoc X5 N0 g_a3
  have E_a1_5 := E_a1.wr W5
  have E_a2_5 := E_a2.wr W5
  have F_size_a1_5 := F_size_a1.other W5 (Or.inl hne_a1_a3)
  have F_elementData_a1_5 := F_elementData_a1.other W5 (Or.inl hne_a1_a3)
  have F_modCount_a1_5 := F_modCount_a1.other W5 (Or.inl hne_a1_a3)
  have Z5 := Nat.le_trans Z0 (Keep.of_wr W5).1
  have KK5 : Keep h0 h5 [a3, a1] := KK0.wr W5 (Or.inl (by simp))
  clear E_a1 E_a2 F_size_a1 F_elementData_a1 F_modCount_a1 Z0 KK0
  have A_a3_5 : RAry Z h5 a3 (.object "java/lang/Object") "java/lang/Object" 10 (upA gf3 2 (.ref a2)) := A_a3.set W5 (by decide)
  show Go p e below _ (T5.setTop (mkF m 15 #[.val (.ref a1), .val (.ref a2), .val (.ref a3), .val (.int (2 : Int32))] []))
  refine Go.step (fun t k => XS.aloadN X5.here hx rfl (hb hby d15_15) rfl rfl k) ?_
  show Go p e below _ (T5.setTop (mkF m 16 #[.val (.ref a1), .val (.ref a2), .val (.ref a3), .val (.int (2 : Int32))] [(.ref a1)]))
  refine Go.step (fun t k => XS.iloadN X5.here hx rfl (hb hby d15_16) rfl k) ?_
  show Go p e below _ (T5.setTop (mkF m 17 #[.val (.ref a1), .val (.ref a2), .val (.ref a3), .val (.int (2 : Int32))] [(.int (2 : Int32)), (.ref a1)]))
  refine Go.step (fun t k => XS.iconst X5.here hx rfl (hb hby d15_17)  k) ?_
  show Go p e below _ (T5.setTop (mkF m 18 #[.val (.ref a1), .val (.ref a2), .val (.ref a3), .val (.int (2 : Int32))] [(.int (1 : Int32)), (.int (2 : Int32)), (.ref a1)]))
  refine Go.step (fun t k => XS.iadd X5.here hx rfl (hb hby d15_18) rfl k) ?_
  show Go p e below _ (T5.setTop (mkF m 19 #[.val (.ref a1), .val (.ref a2), .val (.ref a3), .val (.int (2 : Int32))] [(.int (3 : Int32)), (.ref a1)]))
  obtain ⟨T6, h6, X6, e6, W6, st6⟩ := putF X5 hx hZ hown (host := "") (Or.inl (hw _ (List.mem_of_getElem? (i := 79) rfl))) Via.refl e5 F_size_a1_5 E_a1_5 (Or.inl (hw _ (List.mem_of_getElem? (i := 80) rfl))) (hw _ (List.mem_of_getElem? (i := 34) rfl)) (ty := .int) (by decide) rfl rfl (g := (mkF m 19 #[.val (.ref a1), .val (.ref a2), .val (.ref a3), .val (.int (2 : Int32))] [(.int (3 : Int32)), (.ref a1)])) rfl rfl (hb hby d15_19)
  refine Go.step st6 ?_
  have N6 := Fr.snoc X6 N5 g_a1
  have E_a1_6 := E_a1_5.wr W6
  have E_a2_6 := E_a2_5.wr W6
  have F_elementData_a1_6 := F_elementData_a1_5.other W6 (Or.inr (slot_ne (Or.inl (hw _ (List.mem_of_getElem? (i := 56) rfl))) (Or.inl (hw _ (List.mem_of_getElem? (i := 80) rfl))) (by decide) (t := (.array (.object "java/lang/Object"))) (t' := .int) (by decide) (by decide)))
  have F_modCount_a1_6 := F_modCount_a1_5.other W6 (Or.inr (slot_ne (Or.inl (hw _ (List.mem_of_getElem? (i := 53) rfl))) (Or.inl (hw _ (List.mem_of_getElem? (i := 80) rfl))) (by decide) (t := .int) (t' := .int) (by decide) (by decide)))
  have A_a3_6 := A_a3_5.other W6 hne_a3_a1
  have Z6 := Nat.le_trans Z5 (Keep.of_wr W6).1
  have KK6 : Keep h0 h6 [a3, a1] := KK5.wr W6 (Or.inl (by simp))
  clear E_a1_5 E_a2_5 F_elementData_a1_5 F_modCount_a1_5 A_a3_5 Z5 KK5
  have F_size_a1_6 := F_size_a1_5.same W6
  show Go p e below _ (T6.setTop (mkF m 22 #[.val (.ref a1), .val (.ref a2), .val (.ref a3), .val (.int (2 : Int32))] []))
  refine retGV X6 hx Bd.notSynchronized Bd.returns (hb hby d15_22) ?_ (by decide) (by decide)
  show Q15_2 Z a1 a2 a3 gf3 u_modCount_a1 u_elementData_a1 h0 n0 _ T6.heap _
  rw [e6]
  exact ⟨rfl, N6, KK6, E_a1_6, F_size_a1_6, F_elementData_a1_6, F_modCount_a1_6, A_a3_6⟩
theorem ef_14_2 (m : MethodId) (a1 : Addr) (a2 : Addr) : entryFrame m #[(.ref a1), (.ref a2)] 2 = mkF m 0 #[.val (.ref a1), .val (.ref a2)] [] := by first | (simp [entryFrame, mkF, argsToLocals, Value.category]; done) | rfl
def Q14_2 (Z : State) (a1 : Addr) (a2 : Addr) (o_el : Addr) (g_el : Nat → Value) (w_modCount_a1 : Int32) (h0 : Heap) (n0 : Nat) (v : Option Value) (h : Heap) (L : List Loc) : Prop := v = some (.int (1 : Int32)) ∧ Fr n0 L ∧ Keep h0 h [a1, o_el] ∧ Exa Z h a1 "java/util/ArrayList" ∧ Fld Z h a1 "java/util/ArrayList" "size" "I" (.int (3 : Int32)) ∧ Fld Z h a1 "java/util/ArrayList" "elementData" "[Ljava/lang/Object;" (.ref o_el) ∧ Fld Z h a1 "java/util/AbstractList" "modCount" "I" (.int (w_modCount_a1 + (1 : Int32))) ∧ RAry Z h o_el (.object "java/lang/Object") "java/lang/Object" 10 (upA g_el 2 (.ref a2))
set_option maxRecDepth 65536 in
set_option maxHeartbeats 40000000 in
theorem rm14_2 (l : Launch) (Z : State) (a0 : Array Value) (hw : ∀ d ∈ tables_1, d.before a0 Z = true) (ws : List Jvm.Cond) (a1 : Addr) (a2 : Addr) (o_el : Addr) (g_el : Nat → Value) (w_modCount_a1 : Int32) (h0 : Heap) (n0 : Nat) (Z0 : n0 ≤ h0.size) (E_a1 : Exa Z h0 a1 "java/util/ArrayList") (E_a2 : Exa Z h0 a2 "com/example/dataflow_to_dispatch/dataflowtodispatch/model/document/XmlElement") (F_size_a1 : Fld Z h0 a1 "java/util/ArrayList" "size" "I" (.int (2 : Int32))) (F_elementData_a1 : Fld Z h0 a1 "java/util/ArrayList" "elementData" "[Ljava/lang/Object;" (.ref o_el)) (A_o_el : RAry Z h0 o_el (.object "java/lang/Object") "java/lang/Object" 10 g_el) (F_modCount_a1 : Fld Z h0 a1 "java/util/AbstractList" "modCount" "I" (.int w_modCount_a1)) (g_a1 : n0 ≤ a1) (hne_o_el_a1 : o_el ≠ a1) (g_o_el : n0 ≤ o_el) (hne_a1_o_el : a1 ≠ o_el) :
    MetFree l (⟨"java/util/ArrayList", "add", "(Ljava/lang/Object;)Z"⟩ : MethodName) (head1 (Jvm.Cond.code (⟨"java/util/ArrayList", "add", "(Ljava/lang/Object;)Z"⟩ : MethodName) jdk_38_method_25_code 2 (some .boolean) :: ws) ({ frames := 1, cells := 0, slots := 0, locals := 15 } : Room)) (fun a U => a = #[(.ref a1), (.ref a2)] ∧ Z.Warmed39 U.vm ∧ U.heap = h0) (fun _ _ _ _ _ => True) (fun _ U o U' => ∃ v L, o = .returned v ∧ Q14_2 Z a1 a2 o_el g_el w_modCount_a1 h0 n0 v U'.heap L ∧ FrameEnd U o U' L ({ frames := 1, cells := 0, slots := 0, locals := 15 } : Room).cells ({ frames := 1, cells := 0, slots := 0, locals := 15 } : Room).slots) := by
  refine MetFree.of_bodySF (plainFor_of_name pn_4) hisR ?_
  intro p e s m args below meth c s₁ Bd hml0 hP hK
  obtain ⟨rfl, hZ, hh⟩ := hP
  have hx := Bd.exec
  have hby := Bd.bytes
  have hml : c.maxLocals = 2 := hml0
  have hown : s.vm.findClass "java/util/ArrayList" = some m.cls := findClass_of_methodNamed Bd.named
  have hnm := (name_of_methodNamed Bd.named Bd.method).1
  have X0 : Stand p l e ({ frames := 1, cells := 0, slots := 0, locals := 15 } : Room) s m #[(.ref a1), (.ref a2)] below meth c s₁ [] 0 0 := Stand.of_body Bd
  have e0 : s₁.heap = h0 := by rw [← hh, Bd.state]; rfl
  have N0 := Fr.nil n0
  refine Go.done (Go.step (fun t k => castTop (ef_14_2 m a1 a2) k) ?_)
  have KK0 : Keep h0 h0 [a1, o_el] := Keep.refl _ _
  show Go p e below _ (s₁.setTop (mkF m 0 #[.val (.ref a1), .val (.ref a2)] []))
  refine Go.step (fun t k => XS.aloadN X0.here hx rfl (hb hby d14_0) rfl rfl k) ?_
  show Go p e below _ (s₁.setTop (mkF m 1 #[.val (.ref a1), .val (.ref a2)] [(.ref a1)]))
  refine Go.step (fun t k => XS.dup X0.here hx rfl (hb hby d14_1) rfl rfl k) ?_
  show Go p e below _ (s₁.setTop (mkF m 2 #[.val (.ref a1), .val (.ref a2)] [(.ref a1), (.ref a1)]))
  obtain ⟨T3, X3, e3, st3⟩ := getF X0 hx hZ hown (host := "") (Or.inl (hw _ (List.mem_of_getElem? (i := 106) rfl))) (Via.of (hw _ (List.mem_of_getElem? (i := 107) rfl))) e0 F_modCount_a1 (g := (mkF m 2 #[.val (.ref a1), .val (.ref a2)] [(.ref a1), (.ref a1)])) rfl rfl (hb hby d14_2)
  refine Go.step st3 ?_
  show Go p e below _ (T3.setTop (mkF m 5 #[.val (.ref a1), .val (.ref a2)] [(.int w_modCount_a1), (.ref a1)]))
  refine Go.step (fun t k => XS.iconst X3.here hx rfl (hb hby d14_5)  k) ?_
  show Go p e below _ (T3.setTop (mkF m 6 #[.val (.ref a1), .val (.ref a2)] [(.int (1 : Int32)), (.int w_modCount_a1), (.ref a1)]))
  refine Go.step (fun t k => XS.iadd X3.here hx rfl (hb hby d14_6) rfl k) ?_
  show Go p e below _ (T3.setTop (mkF m 7 #[.val (.ref a1), .val (.ref a2)] [(.int (w_modCount_a1 + (1 : Int32))), (.ref a1)]))
  obtain ⟨T4, h4, X4, e4, W4, st4⟩ := putF X3 hx hZ hown (host := "") (Or.inl (hw _ (List.mem_of_getElem? (i := 106) rfl))) (Via.of (hw _ (List.mem_of_getElem? (i := 107) rfl))) e3 F_modCount_a1 E_a1 (Or.inl (hw _ (List.mem_of_getElem? (i := 53) rfl))) (hw _ (List.mem_of_getElem? (i := 34) rfl)) (ty := .int) (by decide) rfl rfl (g := (mkF m 7 #[.val (.ref a1), .val (.ref a2)] [(.int (w_modCount_a1 + (1 : Int32))), (.ref a1)])) rfl rfl (hb hby d14_7)
  refine Go.step st4 ?_
  have N4 := Fr.snoc X4 N0 g_a1
  have E_a1_4 := E_a1.wr W4
  have E_a2_4 := E_a2.wr W4
  have F_size_a1_4 := F_size_a1.other W4 (Or.inr (slot_ne (Or.inl (hw _ (List.mem_of_getElem? (i := 80) rfl))) (Or.inl (hw _ (List.mem_of_getElem? (i := 53) rfl))) (by decide) (t := .int) (t' := .int) (by decide) (by decide)))
  have F_elementData_a1_4 := F_elementData_a1.other W4 (Or.inr (slot_ne (Or.inl (hw _ (List.mem_of_getElem? (i := 56) rfl))) (Or.inl (hw _ (List.mem_of_getElem? (i := 53) rfl))) (by decide) (t := (.array (.object "java/lang/Object"))) (t' := .int) (by decide) (by decide)))
  have A_o_el_4 := A_o_el.other W4 hne_o_el_a1
  have Z4 := Nat.le_trans Z0 (Keep.of_wr W4).1
  have KK4 : Keep h0 h4 [a1, o_el] := KK0.wr W4 (Or.inl (by simp))
  clear E_a1 E_a2 F_size_a1 F_elementData_a1 A_o_el Z0 KK0
  have F_modCount_a1_4 := F_modCount_a1.same W4
  show Go p e below _ (T4.setTop (mkF m 10 #[.val (.ref a1), .val (.ref a2)] []))
  refine Go.step (fun t k => XS.aloadN X4.here hx rfl (hb hby d14_10) rfl rfl k) ?_
  show Go p e below _ (T4.setTop (mkF m 11 #[.val (.ref a1), .val (.ref a2)] [(.ref a1)]))
  refine Go.step (fun t k => XS.aloadN X4.here hx rfl (hb hby d14_11) rfl rfl k) ?_
  show Go p e below _ (T4.setTop (mkF m 12 #[.val (.ref a1), .val (.ref a2)] [(.ref a2), (.ref a1)]))
  refine Go.step (fun t k => XS.aloadN X4.here hx rfl (hb hby d14_12) rfl rfl k) ?_
  show Go p e below _ (T4.setTop (mkF m 13 #[.val (.ref a1), .val (.ref a2)] [(.ref a1), (.ref a2), (.ref a1)]))
  obtain ⟨T5, X5, e5, st5⟩ := getF X4 hx hZ hown (host := "") (Or.inl (hw _ (List.mem_of_getElem? (i := 55) rfl))) Via.refl e4 F_elementData_a1_4 (g := (mkF m 13 #[.val (.ref a1), .val (.ref a2)] [(.ref a1), (.ref a2), (.ref a1)])) rfl rfl (hb hby d14_13)
  refine Go.step st5 ?_
  show Go p e below _ (T5.setTop (mkF m 16 #[.val (.ref a1), .val (.ref a2)] [(.ref o_el), (.ref a2), (.ref a1)]))
  refine Go.step (fun t k => XS.aloadN X5.here hx rfl (hb hby d14_16) rfl rfl k) ?_
  show Go p e below _ (T5.setTop (mkF m 17 #[.val (.ref a1), .val (.ref a2)] [(.ref a1), (.ref o_el), (.ref a2), (.ref a1)]))
  obtain ⟨T6, X6, e6, st6⟩ := getF X5 hx hZ hown (host := "") (Or.inl (hw _ (List.mem_of_getElem? (i := 79) rfl))) Via.refl e5 F_size_a1_4 (g := (mkF m 17 #[.val (.ref a1), .val (.ref a2)] [(.ref a1), (.ref o_el), (.ref a2), (.ref a1)])) rfl rfl (hb hby d14_17)
  refine Go.step st6 ?_
  show Go p e below _ (T6.setTop (mkF m 20 #[.val (.ref a1), .val (.ref a2)] [(.int (2 : Int32)), (.ref o_el), (.ref a2), (.ref a1)]))
  obtain ⟨cq7, q7, q7'⟩ := E_a1_4.cell
  obtain ⟨_, _, ⟨T7, L7, k7, n7⟩, -, X7, ⟨Lc7, hQ7, l7, y7, z7⟩, st7⟩ := X6.privateBack hx (y := (⟨"java/util/ArrayList", "add", "(Ljava/lang/Object;[Ljava/lang/Object;I)V"⟩ : MethodName)) hown (mvT hZ (hw _ (List.mem_of_getElem? (i := 108) rfl))) (mvT hZ (hw _ (List.mem_of_getElem? (i := 109) rfl))) (mvT hZ (hw _ (List.mem_of_getElem? (i := 111) rfl))) (Cond.privateMethod_at (mvP hZ (hw _ (List.mem_of_getElem? (i := 110) rfl)) (args := #[]))) (mvT hZ (hw _ (List.mem_of_getElem? (i := 112) rfl))) (by decide) (backOf (W := 0) (rm15_2 l Z a0 hw [] a1 a2 o_el g_el (.int (w_modCount_a1 + (1 : Int32))) (.ref o_el) h4 n0 Z4 E_a1_4 E_a2_4 F_size_a1_4 F_elementData_a1_4 F_modCount_a1_4 A_o_el_4 g_o_el hne_a1_o_el g_a1 hne_o_el_a1) hZ (hw _ (List.mem_of_getElem? (i := 112) rfl)) (hw _ (List.mem_of_getElem? (i := 35) rfl)) (by decide) (by decide)) (g := (mkF m 20 #[.val (.ref a1), .val (.ref a2)] [(.int (2 : Int32)), (.ref o_el), (.ref a2), (.ref a1)])) rfl (by rw [hml]; rfl) (Steps.refl _) (a := a1) (by rw [e6]; exact q7) q7' (argsL := [(.ref a2), (.ref o_el), (.int (2 : Int32))]) (rest := []) (lenOf pd_7 rfl) rfl (by show 2 * 0 + _ ≤ _; exact Nat.le_of_eq rfl) (hb hby d14_20) (fun _ _ => ⟨rfl, e6, (by decide : 0 + 0 ≤ _), (by decide : 0 + 0 ≤ _)⟩)
  dsimp only [Pt.U, Pt.locs, Pt.cells, Pt.slots] at X7 l7 y7 z7 st7 hQ7
  subst l7 y7 z7
  obtain ⟨rfl, N7q, K7, Q7_0, Q7_1, Q7_2, Q7_3, Q7_4⟩ := hQ7
  have N7 := Fr.app N4 N7q
  have E_a1_7 := E_a1_4.keep K7
  have E_a2_7 := E_a2_4.keep K7
  have Z7 := Nat.le_trans Z4 K7.1
  have KK7 : Keep h0 T7.heap [a1, o_el] := KK4.trans K7 (allS (Or.inl (by simp)) (allS (Or.inl (by simp)) all0))
  clear E_a1_4 E_a2_4 Z4 KK4 K7
  refine Go.trans st7 ?_
  show Go p e below _ (T7.setTop (mkF m 23 #[.val (.ref a1), .val (.ref a2)] []))
  refine Go.step (fun t k => XS.iconst X7.here hx rfl (hb hby d14_23)  k) ?_
  show Go p e below _ (T7.setTop (mkF m 24 #[.val (.ref a1), .val (.ref a2)] [(.int (1 : Int32))]))
  refine retGN X7 hx Bd.notSynchronized Bd.returns (t := .boolean) (by simp) (z' := (1 : Int32)) rfl (hb hby d14_24) ?_ (by decide) (by decide)
  show Q14_2 Z a1 a2 o_el g_el w_modCount_a1 h0 n0 _ T7.heap _
  exact ⟨rfl, N7, KK7, Q7_0, Q7_1, Q7_2, Q7_3, Q7_4⟩
theorem d10_0 : decode prog_109_method_6_code 0 = .ok (.new 7, 3) := by decide +kernel
theorem d10_3 : decode prog_109_method_6_code 3 = .ok (.dup, 1) := by decide +kernel
theorem d10_4 : decode prog_109_method_6_code 4 = .ok (.invokespecial 9, 3) := by decide +kernel
theorem d10_7 : decode prog_109_method_6_code 7 = .ok (.astore_n 1, 1) := by decide +kernel
theorem d10_8 : decode prog_109_method_6_code 8 = .ok (.aload_n 0, 1) := by decide +kernel
theorem d10_9 : decode prog_109_method_6_code 9 = .ok (.getfield 39, 3) := by decide +kernel
theorem d10_12 : decode prog_109_method_6_code 12 = .ok (.astore_n 2, 1) := by decide +kernel
theorem d10_13 : decode prog_109_method_6_code 13 = .ok (.aload_n 2, 1) := by decide +kernel
theorem d10_14 : decode prog_109_method_6_code 14 = .ok (.ifnull 19, 3) := by decide +kernel
theorem d10_33 : decode prog_109_method_6_code 33 = .ok (.aload_n 1, 1) := by decide +kernel
theorem d10_34 : decode prog_109_method_6_code 34 = .ok (.areturn, 1) := by decide +kernel
theorem ef_10_0 (m : MethodId) (a1 : Addr) : entryFrame m #[(.ref a1)] 3 = mkF m 0 #[.val (.ref a1), .unset, .unset] [] := by first | (simp [entryFrame, mkF, argsToLocals, Value.category]; done) | rfl
theorem pn_5 : plainName "com/example/dataflow_to_dispatch/dataflowtodispatch/model/document/XmlElement" = true := by first | (simp [plainName, overriddenIn]; done) | decide +kernel
def Q10_0 (Z : State) (a1 : Addr) (oD : Addr) (h0 : Heap) (n0 : Nat) (v : Option Value) (h : Heap) (L : List Loc) : Prop := ∃ (b2 : Addr), v = some (.ref b2) ∧ Fr n0 L ∧ Keep h0 h [] ∧ h0.size ≤ b2 ∧ Exa Z h b2 "java/util/ArrayList" ∧ Fld Z h b2 "java/util/ArrayList" "elementData" "[Ljava/lang/Object;" (.ref oD) ∧ Fld Z h b2 "java/util/ArrayList" "size" "I" (.int (0 : Int32)) ∧ Fld Z h b2 "java/util/AbstractList" "modCount" "I" (.int (0 : Int32))
set_option maxRecDepth 65536 in
set_option maxHeartbeats 40000000 in
theorem rm10_0 (l : Launch) (Z : State) (a0 : Array Value) (hw : ∀ d ∈ tables_1, d.before a0 Z = true) (ws : List Jvm.Cond) (a1 : Addr) (oD : Addr) (h0 : Heap) (n0 : Nat) (Z0 : n0 ≤ h0.size) (F_firstChild_a1 : Fld Z h0 a1 "com/example/dataflow_to_dispatch/dataflowtodispatch/model/document/XmlElement" "firstChild" "Lcom/example/dataflow_to_dispatch/dataflowtodispatch/model/document/XmlElement;" .null) (hO : Old Z n0 h0) (S_DEFAULTCAPACITY_EMPTY_ELEMENTDATA : Sta Z Z.heap "java/util/ArrayList" "DEFAULTCAPACITY_EMPTY_ELEMENTDATA" "[Ljava/lang/Object;" (.ref oD)) (A_DEFAULTCAPACITY_EMPTY_ELEMENTDATA : Ary Z Z.heap oD (.object "java/lang/Object") 0 (fun _ => Value.null)) :
    MetFree l (⟨"com/example/dataflow_to_dispatch/dataflowtodispatch/model/document/XmlElement", "children", "()Ljava/util/List;"⟩ : MethodName) (head1 (Jvm.Cond.code (⟨"com/example/dataflow_to_dispatch/dataflowtodispatch/model/document/XmlElement", "children", "()Ljava/util/List;"⟩ : MethodName) prog_109_method_6_code 3 (some (.object "java/util/List")) :: ws) ({ frames := 4, cells := 1, slots := 3, locals := 49 } : Room)) (fun a U => a = #[(.ref a1)] ∧ Z.Warmed39 U.vm ∧ U.heap = h0) (fun _ _ _ _ _ => True) (fun _ U o U' => ∃ v L, o = .returned v ∧ Q10_0 Z a1 oD h0 n0 v U'.heap L ∧ FrameEnd U o U' L ({ frames := 4, cells := 1, slots := 3, locals := 49 } : Room).cells ({ frames := 4, cells := 1, slots := 3, locals := 49 } : Room).slots) := by
  refine MetFree.of_bodySF (plainFor_of_name pn_5) hisR ?_
  intro p e s m args below meth c s₁ Bd hml0 hP hK
  obtain ⟨rfl, hZ, hh⟩ := hP
  have hx := Bd.exec
  have hby := Bd.bytes
  have hml : c.maxLocals = 3 := hml0
  have hown : s.vm.findClass "com/example/dataflow_to_dispatch/dataflowtodispatch/model/document/XmlElement" = some m.cls := findClass_of_methodNamed Bd.named
  have hnm := (name_of_methodNamed Bd.named Bd.method).1
  have X0 : Stand p l e ({ frames := 4, cells := 1, slots := 3, locals := 49 } : Room) s m #[(.ref a1)] below meth c s₁ [] 0 0 := Stand.of_body Bd
  have e0 : s₁.heap = h0 := by rw [← hh, Bd.state]; rfl
  have N0 := Fr.nil n0
  refine Go.done (Go.step (fun t k => castTop (ef_10_0 m a1) k) ?_)
  have KK0 : Keep h0 h0 [] := Keep.refl _ _
  show Go p e below _ (s₁.setTop (mkF m 0 #[.val (.ref a1), .unset, .unset] []))
  obtain ⟨T2, h2, X2, e2, E2, A2, D2, -, st2⟩ := newO X0 hx hZ hown (hw _ (List.mem_of_getElem? (i := 33) rfl)) (hw _ (List.mem_of_getElem? (i := 34) rfl)) (hw _ (List.mem_of_getElem? (i := 35) rfl)) e0 (g := (mkF m 0 #[.val (.ref a1), .unset, .unset] [])) rfl (hb hby d10_0) (by decide) (by decide)
  obtain ⟨b2, g2⟩ : ∃ z, z = h0.size := ⟨_, rfl⟩
  rw [← g2] at A2 D2 st2
  have g_b2 : n0 ≤ b2 := Nat.le_trans Z0 (Nat.le_of_eq g2.symm)
  have sz_b2 : h0.size ≤ b2 := Nat.le_trans KK0.1 (Nat.le_of_eq g2.symm)
  have ne_a1_b2 : a1 ≠ b2 := Nat.ne_of_lt (Nat.lt_of_lt_of_le F_firstChild_a1.lt (Nat.le_of_eq g2.symm))
  refine Go.step st2 ?_
  have F_firstChild_a1_2 := F_firstChild_a1.ext E2
  have O2 := hO.ext E2
  have Z2 := Nat.le_trans Z0 E2.1
  have KK2 : Keep h0 h2 [] := KK0.ext E2
  clear F_firstChild_a1 hO Z0 KK0 E2
  have F_modCount_b2 : Fld Z h2 b2 "java/util/AbstractList" "modCount" "I" (.int (0 : Int32)) := D2 (Or.inl (hw _ (List.mem_of_getElem? (i := 53) rfl))) (ty := .int) (by decide)
  have F_elementData_b2 : Fld Z h2 b2 "java/util/ArrayList" "elementData" "[Ljava/lang/Object;" .null := D2 (Or.inl (hw _ (List.mem_of_getElem? (i := 56) rfl))) (ty := (.array (.object "java/lang/Object"))) (by decide)
  have F_size_b2 : Fld Z h2 b2 "java/util/ArrayList" "size" "I" (.int (0 : Int32)) := D2 (Or.inl (hw _ (List.mem_of_getElem? (i := 80) rfl))) (ty := .int) (by decide)
  show Go p e below _ (T2.setTop (mkF m 3 #[.val (.ref a1), .unset, .unset] [(.ref b2)]))
  refine Go.step (fun t k => XS.dup X2.here hx rfl (hb hby d10_3) rfl rfl k) ?_
  show Go p e below _ (T2.setTop (mkF m 4 #[.val (.ref a1), .unset, .unset] [(.ref b2), (.ref b2)]))
  obtain ⟨_, _, ⟨T3, L3, k3, n3⟩, -, X3, ⟨Lc3, hQ3, l3, y3, z3⟩, st3⟩ := X2.specialBack hx (y := (⟨"java/util/ArrayList", "<init>", "()V"⟩ : MethodName)) rfl hown (mvT hZ (hw _ (List.mem_of_getElem? (i := 36) rfl))) (mvT hZ (hw _ (List.mem_of_getElem? (i := 37) rfl))) (mvT hZ (hw _ (List.mem_of_getElem? (i := 38) rfl))) (by decide) (backOf (W := 1) (rm7 l Z a0 hw [] b2 (.int (0 : Int32)) .null (.int (0 : Int32)) oD h2 n0 Z2 A2 F_size_b2 O2 F_elementData_b2 F_modCount_b2 g_b2 S_DEFAULTCAPACITY_EMPTY_ELEMENTDATA A_DEFAULTCAPACITY_EMPTY_ELEMENTDATA) hZ (hw _ (List.mem_of_getElem? (i := 38) rfl)) (hw _ (List.mem_of_getElem? (i := 35) rfl)) (by decide) (by decide)) (g := (mkF m 4 #[.val (.ref a1), .unset, .unset] [(.ref b2), (.ref b2)])) rfl (by rw [hml]; rfl) (Steps.refl _) (a := b2) (argsL := []) (rest := [(.ref b2)]) (lenOf pd_3 rfl) rfl (by show 2 * 0 + _ ≤ _; exact Nat.le_of_eq rfl) (hb hby d10_4) (fun _ _ => ⟨rfl, e2, (by decide : 1 + 0 ≤ _), (by decide : 3 + 0 ≤ _)⟩)
  dsimp only [Pt.U, Pt.locs, Pt.cells, Pt.slots] at X3 l3 y3 z3 st3 hQ3
  subst l3 y3 z3
  obtain ⟨rfl, N3q, K3, Q3_0, Q3_1, Q3_2, Q3_3⟩ := hQ3
  have N3 := Fr.app N0 N3q
  have F_firstChild_a1_3 := F_firstChild_a1_2.keep K3 (ninS ne_a1_b2 nin0)
  have E_b2_3 := A2.keep K3
  have O3 := O2.keep K3 (allS g_b2 all0)
  have Z3 := Nat.le_trans Z2 K3.1
  have KK3 : Keep h0 T3.heap [] := KK2.trans K3 (allS (Or.inr sz_b2) all0)
  clear F_firstChild_a1_2 A2 O2 Z2 KK2 K3
  refine Go.trans st3 ?_
  show Go p e below _ (T3.setTop (mkF m 7 #[.val (.ref a1), .unset, .unset] [(.ref b2)]))
  refine Go.step (fun t k => XS.astoreN X3.here hx rfl (hb hby d10_7) rfl rfl (l' := #[.val (.ref a1), .val (.ref b2), .unset]) rfl k) ?_
  show Go p e below _ (T3.setTop (mkF m 8 #[.val (.ref a1), .val (.ref b2), .unset] []))
  refine Go.step (fun t k => XS.aloadN X3.here hx rfl (hb hby d10_8) rfl rfl k) ?_
  show Go p e below _ (T3.setTop (mkF m 9 #[.val (.ref a1), .val (.ref b2), .unset] [(.ref a1)]))
  obtain ⟨T4, X4, e4, st4⟩ := getF X3 hx hZ hown (host := "") (Or.inl (hw _ (List.mem_of_getElem? (i := 68) rfl))) Via.refl rfl F_firstChild_a1_3 (g := (mkF m 9 #[.val (.ref a1), .val (.ref b2), .unset] [(.ref a1)])) rfl rfl (hb hby d10_9)
  refine Go.step st4 ?_
  show Go p e below _ (T4.setTop (mkF m 12 #[.val (.ref a1), .val (.ref b2), .unset] [.null]))
  refine Go.step (fun t k => XS.astoreN X4.here hx rfl (hb hby d10_12) rfl rfl (l' := #[.val (.ref a1), .val (.ref b2), .val .null]) rfl k) ?_
  show Go p e below _ (T4.setTop (mkF m 13 #[.val (.ref a1), .val (.ref b2), .val .null] []))
  refine Go.step (fun t k => XS.aloadN X4.here hx rfl (hb hby d10_13) rfl rfl k) ?_
  show Go p e below _ (T4.setTop (mkF m 14 #[.val (.ref a1), .val (.ref b2), .val .null] [.null]))
  refine Go.step (fun t k => XS.ifnullYes X4.here hx rfl (pc0 := 14) (pc' := 33) rfl (hb hby d10_14) rfl (by decide) (by decide) k) ?_
  show Go p e below _ (T4.setTop (mkF m 33 #[.val (.ref a1), .val (.ref b2), .val .null] []))
  refine Go.step (fun t k => XS.aloadN X4.here hx rfl (hb hby d10_33) rfl rfl k) ?_
  show Go p e below _ (T4.setTop (mkF m 34 #[.val (.ref a1), .val (.ref b2), .val .null] [(.ref b2)]))
  refine retGR X4 hx Bd.notSynchronized Bd.returns rfl rfl (hb hby d10_34) ?_ (by decide) (by decide)
  show Q10_0 Z a1 oD h0 n0 _ T4.heap _
  rw [e4]
  exact ⟨b2, rfl, N3, KK3, sz_b2, Q3_0, Q3_1, Q3_2, Q3_3⟩
theorem d10_17 : decode prog_109_method_6_code 17 = .ok (.aload_n 1, 1) := by decide +kernel
theorem d10_18 : decode prog_109_method_6_code 18 = .ok (.aload_n 2, 1) := by decide +kernel
theorem d10_19 : decode prog_109_method_6_code 19 = .ok (.invokeinterface 42 2, 5) := by decide +kernel
theorem pd_8 : parseMethodDescriptor "(Ljava/lang/Object;)Z" = some ⟨[(.object "java/lang/Object")], some .boolean⟩ := by decide +kernel
theorem d10_24 : decode prog_109_method_6_code 24 = .ok (.pop, 1) := by decide +kernel
theorem d10_25 : decode prog_109_method_6_code 25 = .ok (.aload_n 2, 1) := by decide +kernel
theorem d10_26 : decode prog_109_method_6_code 26 = .ok (.getfield 48, 3) := by decide +kernel
theorem d10_29 : decode prog_109_method_6_code 29 = .ok (.astore_n 2, 1) := by decide +kernel
theorem d10_30 : decode prog_109_method_6_code 30 = .ok (.goto (-17), 3) := by decide +kernel
theorem ef_10_1 (m : MethodId) (a1 : Addr) : entryFrame m #[(.ref a1)] 3 = mkF m 0 #[.val (.ref a1), .unset, .unset] [] := by first | (simp [entryFrame, mkF, argsToLocals, Value.category]; done) | rfl
def Q10_1 (Z : State) (a1 : Addr) (x1 : Addr) (oD : Addr) (h0 : Heap) (n0 : Nat) (v : Option Value) (h : Heap) (L : List Loc) : Prop := ∃ (b2 : Addr) (b5_0 : Addr), v = some (.ref b2) ∧ Fr n0 L ∧ Keep h0 h [] ∧ h0.size ≤ b2 ∧ h0.size ≤ b5_0 ∧ Exa Z h b2 "java/util/ArrayList" ∧ Fld Z h b2 "java/util/ArrayList" "elementData" "[Ljava/lang/Object;" (.ref b5_0) ∧ Fld Z h b2 "java/util/ArrayList" "size" "I" (.int (1 : Int32)) ∧ Fld Z h b2 "java/util/AbstractList" "modCount" "I" (.int (1 : Int32)) ∧ RAry Z h b5_0 (.object "java/lang/Object") "java/lang/Object" 10 (upA (fun _ => .null) 0 (.ref x1))
set_option maxRecDepth 65536 in
set_option maxHeartbeats 40000000 in
theorem rm10_1 (l : Launch) (Z : State) (a0 : Array Value) (hw : ∀ d ∈ tables_1, d.before a0 Z = true) (ws : List Jvm.Cond) (a1 : Addr) (x1 : Addr) (oD : Addr) (h0 : Heap) (n0 : Nat) (Z0 : n0 ≤ h0.size) (F_firstChild_a1 : Fld Z h0 a1 "com/example/dataflow_to_dispatch/dataflowtodispatch/model/document/XmlElement" "firstChild" "Lcom/example/dataflow_to_dispatch/dataflowtodispatch/model/document/XmlElement;" (.ref x1)) (E_x1 : Exa Z h0 x1 "com/example/dataflow_to_dispatch/dataflowtodispatch/model/document/XmlElement") (F_next_x1 : Fld Z h0 x1 "com/example/dataflow_to_dispatch/dataflowtodispatch/model/document/XmlElement" "next" "Lcom/example/dataflow_to_dispatch/dataflowtodispatch/model/document/XmlElement;" .null) (hO : Old Z n0 h0) (S_DEFAULTCAPACITY_EMPTY_ELEMENTDATA : Sta Z Z.heap "java/util/ArrayList" "DEFAULTCAPACITY_EMPTY_ELEMENTDATA" "[Ljava/lang/Object;" (.ref oD)) (A_DEFAULTCAPACITY_EMPTY_ELEMENTDATA : Ary Z Z.heap oD (.object "java/lang/Object") 0 (fun _ => Value.null)) :
    MetFree l (⟨"com/example/dataflow_to_dispatch/dataflowtodispatch/model/document/XmlElement", "children", "()Ljava/util/List;"⟩ : MethodName) (head1 (Jvm.Cond.code (⟨"com/example/dataflow_to_dispatch/dataflowtodispatch/model/document/XmlElement", "children", "()Ljava/util/List;"⟩ : MethodName) prog_109_method_6_code 3 (some (.object "java/util/List")) :: ws) ({ frames := 5, cells := 2, slots := 13, locals := 69 } : Room)) (fun a U => a = #[(.ref a1)] ∧ Z.Warmed39 U.vm ∧ U.heap = h0) (fun _ _ _ _ _ => True) (fun _ U o U' => ∃ v L, o = .returned v ∧ Q10_1 Z a1 x1 oD h0 n0 v U'.heap L ∧ FrameEnd U o U' L ({ frames := 5, cells := 2, slots := 13, locals := 69 } : Room).cells ({ frames := 5, cells := 2, slots := 13, locals := 69 } : Room).slots) := by
  refine MetFree.of_bodySF (plainFor_of_name pn_5) hisR ?_
  intro p e s m args below meth c s₁ Bd hml0 hP hK
  obtain ⟨rfl, hZ, hh⟩ := hP
  have hx := Bd.exec
  have hby := Bd.bytes
  have hml : c.maxLocals = 3 := hml0
  have hown : s.vm.findClass "com/example/dataflow_to_dispatch/dataflowtodispatch/model/document/XmlElement" = some m.cls := findClass_of_methodNamed Bd.named
  have hnm := (name_of_methodNamed Bd.named Bd.method).1
  have X0 : Stand p l e ({ frames := 5, cells := 2, slots := 13, locals := 69 } : Room) s m #[(.ref a1)] below meth c s₁ [] 0 0 := Stand.of_body Bd
  have e0 : s₁.heap = h0 := by rw [← hh, Bd.state]; rfl
  have N0 := Fr.nil n0
  refine Go.done (Go.step (fun t k => castTop (ef_10_1 m a1) k) ?_)
  have KK0 : Keep h0 h0 [] := Keep.refl _ _
  show Go p e below _ (s₁.setTop (mkF m 0 #[.val (.ref a1), .unset, .unset] []))
  obtain ⟨T2, h2, X2, e2, E2, A2, D2, -, st2⟩ := newO X0 hx hZ hown (hw _ (List.mem_of_getElem? (i := 33) rfl)) (hw _ (List.mem_of_getElem? (i := 34) rfl)) (hw _ (List.mem_of_getElem? (i := 35) rfl)) e0 (g := (mkF m 0 #[.val (.ref a1), .unset, .unset] [])) rfl (hb hby d10_0) (by decide) (by decide)
  obtain ⟨b2, g2⟩ : ∃ z, z = h0.size := ⟨_, rfl⟩
  rw [← g2] at A2 D2 st2
  have g_b2 : n0 ≤ b2 := Nat.le_trans Z0 (Nat.le_of_eq g2.symm)
  have sz_b2 : h0.size ≤ b2 := Nat.le_trans KK0.1 (Nat.le_of_eq g2.symm)
  have ne_a1_b2 : a1 ≠ b2 := Nat.ne_of_lt (Nat.lt_of_lt_of_le F_firstChild_a1.lt (Nat.le_of_eq g2.symm))
  have ne_x1_b2 : x1 ≠ b2 := Nat.ne_of_lt (Nat.lt_of_lt_of_le E_x1.lt (Nat.le_of_eq g2.symm))
  refine Go.step st2 ?_
  have F_firstChild_a1_2 := F_firstChild_a1.ext E2
  have E_x1_2 := E_x1.ext E2
  have F_next_x1_2 := F_next_x1.ext E2
  have O2 := hO.ext E2
  have Z2 := Nat.le_trans Z0 E2.1
  have KK2 : Keep h0 h2 [] := KK0.ext E2
  clear F_firstChild_a1 E_x1 F_next_x1 hO Z0 KK0 E2
  have F_modCount_b2 : Fld Z h2 b2 "java/util/AbstractList" "modCount" "I" (.int (0 : Int32)) := D2 (Or.inl (hw _ (List.mem_of_getElem? (i := 53) rfl))) (ty := .int) (by decide)
  have F_elementData_b2 : Fld Z h2 b2 "java/util/ArrayList" "elementData" "[Ljava/lang/Object;" .null := D2 (Or.inl (hw _ (List.mem_of_getElem? (i := 56) rfl))) (ty := (.array (.object "java/lang/Object"))) (by decide)
  have F_size_b2 : Fld Z h2 b2 "java/util/ArrayList" "size" "I" (.int (0 : Int32)) := D2 (Or.inl (hw _ (List.mem_of_getElem? (i := 80) rfl))) (ty := .int) (by decide)
  show Go p e below _ (T2.setTop (mkF m 3 #[.val (.ref a1), .unset, .unset] [(.ref b2)]))
  refine Go.step (fun t k => XS.dup X2.here hx rfl (hb hby d10_3) rfl rfl k) ?_
  show Go p e below _ (T2.setTop (mkF m 4 #[.val (.ref a1), .unset, .unset] [(.ref b2), (.ref b2)]))
  obtain ⟨_, _, ⟨T3, L3, k3, n3⟩, -, X3, ⟨Lc3, hQ3, l3, y3, z3⟩, st3⟩ := X2.specialBack hx (y := (⟨"java/util/ArrayList", "<init>", "()V"⟩ : MethodName)) rfl hown (mvT hZ (hw _ (List.mem_of_getElem? (i := 36) rfl))) (mvT hZ (hw _ (List.mem_of_getElem? (i := 37) rfl))) (mvT hZ (hw _ (List.mem_of_getElem? (i := 38) rfl))) (by decide) (backOf (W := 1) (rm7 l Z a0 hw [] b2 (.int (0 : Int32)) .null (.int (0 : Int32)) oD h2 n0 Z2 A2 F_size_b2 O2 F_elementData_b2 F_modCount_b2 g_b2 S_DEFAULTCAPACITY_EMPTY_ELEMENTDATA A_DEFAULTCAPACITY_EMPTY_ELEMENTDATA) hZ (hw _ (List.mem_of_getElem? (i := 38) rfl)) (hw _ (List.mem_of_getElem? (i := 35) rfl)) (by decide) (by decide)) (g := (mkF m 4 #[.val (.ref a1), .unset, .unset] [(.ref b2), (.ref b2)])) rfl (by rw [hml]; rfl) (Steps.refl _) (a := b2) (argsL := []) (rest := [(.ref b2)]) (lenOf pd_3 rfl) rfl (by show 2 * 0 + _ ≤ _; exact Nat.le_of_eq rfl) (hb hby d10_4) (fun _ _ => ⟨rfl, e2, (by decide : 1 + 0 ≤ _), (by decide : 3 + 0 ≤ _)⟩)
  dsimp only [Pt.U, Pt.locs, Pt.cells, Pt.slots] at X3 l3 y3 z3 st3 hQ3
  subst l3 y3 z3
  obtain ⟨rfl, N3q, K3, Q3_0, Q3_1, Q3_2, Q3_3⟩ := hQ3
  have N3 := Fr.app N0 N3q
  have F_firstChild_a1_3 := F_firstChild_a1_2.keep K3 (ninS ne_a1_b2 nin0)
  have E_x1_3 := E_x1_2.keep K3
  have F_next_x1_3 := F_next_x1_2.keep K3 (ninS ne_x1_b2 nin0)
  have E_b2_3 := A2.keep K3
  have O3 := O2.keep K3 (allS g_b2 all0)
  have Z3 := Nat.le_trans Z2 K3.1
  have KK3 : Keep h0 T3.heap [] := KK2.trans K3 (allS (Or.inr sz_b2) all0)
  clear F_firstChild_a1_2 E_x1_2 F_next_x1_2 A2 O2 Z2 KK2 K3
  refine Go.trans st3 ?_
  show Go p e below _ (T3.setTop (mkF m 7 #[.val (.ref a1), .unset, .unset] [(.ref b2)]))
  refine Go.step (fun t k => XS.astoreN X3.here hx rfl (hb hby d10_7) rfl rfl (l' := #[.val (.ref a1), .val (.ref b2), .unset]) rfl k) ?_
  show Go p e below _ (T3.setTop (mkF m 8 #[.val (.ref a1), .val (.ref b2), .unset] []))
  refine Go.step (fun t k => XS.aloadN X3.here hx rfl (hb hby d10_8) rfl rfl k) ?_
  show Go p e below _ (T3.setTop (mkF m 9 #[.val (.ref a1), .val (.ref b2), .unset] [(.ref a1)]))
  obtain ⟨T4, X4, e4, st4⟩ := getF X3 hx hZ hown (host := "") (Or.inl (hw _ (List.mem_of_getElem? (i := 68) rfl))) Via.refl rfl F_firstChild_a1_3 (g := (mkF m 9 #[.val (.ref a1), .val (.ref b2), .unset] [(.ref a1)])) rfl rfl (hb hby d10_9)
  refine Go.step st4 ?_
  show Go p e below _ (T4.setTop (mkF m 12 #[.val (.ref a1), .val (.ref b2), .unset] [(.ref x1)]))
  refine Go.step (fun t k => XS.astoreN X4.here hx rfl (hb hby d10_12) rfl rfl (l' := #[.val (.ref a1), .val (.ref b2), .val (.ref x1)]) rfl k) ?_
  show Go p e below _ (T4.setTop (mkF m 13 #[.val (.ref a1), .val (.ref b2), .val (.ref x1)] []))
  refine Go.step (fun t k => XS.aloadN X4.here hx rfl (hb hby d10_13) rfl rfl k) ?_
  show Go p e below _ (T4.setTop (mkF m 14 #[.val (.ref a1), .val (.ref b2), .val (.ref x1)] [(.ref x1)]))
  refine Go.step (fun t k => XS.ifnullNo X4.here hx rfl (hb hby d10_14) rfl k) ?_
  show Go p e below _ (T4.setTop (mkF m 17 #[.val (.ref a1), .val (.ref b2), .val (.ref x1)] []))
  refine Go.step (fun t k => XS.aloadN X4.here hx rfl (hb hby d10_17) rfl rfl k) ?_
  show Go p e below _ (T4.setTop (mkF m 18 #[.val (.ref a1), .val (.ref b2), .val (.ref x1)] [(.ref b2)]))
  refine Go.step (fun t k => XS.aloadN X4.here hx rfl (hb hby d10_18) rfl rfl k) ?_
  show Go p e below _ (T4.setTop (mkF m 19 #[.val (.ref a1), .val (.ref b2), .val (.ref x1)] [(.ref x1), (.ref b2)]))
  obtain ⟨cq5, kq5, q5a, q5b, q5c⟩ := isOf hZ e4 Q3_0
  obtain ⟨_, _, ⟨T5, L5, k5, n5⟩, -, X5, ⟨Lc5, hQ5, l5, y5, z5⟩, st5⟩ := X4.interfaceBack hx (xi := (⟨"java/util/List", "add", "(Ljava/lang/Object;)Z"⟩ : MethodName)) (y := (⟨"java/util/ArrayList", "add", "(Ljava/lang/Object;)Z"⟩ : MethodName)) hown (mvT hZ (hw _ (List.mem_of_getElem? (i := 98) rfl))) (mvT hZ (hw _ (List.mem_of_getElem? (i := 99) rfl))) (mvT hZ (hw _ (List.mem_of_getElem? (i := 100) rfl))) (mvT hZ (hw _ (List.mem_of_getElem? (i := 101) rfl))) (mvT hZ (hw _ (List.mem_of_getElem? (i := 102) rfl))) (mvT hZ (hw _ (List.mem_of_getElem? (i := 103) rfl))) (mvT hZ (hw _ (List.mem_of_getElem? (i := 104) rfl))) (mvT hZ (hw _ (List.mem_of_getElem? (i := 77) rfl))) (by decide) (backOf (W := 0) (rm14_0 l Z a0 hw [] b2 x1 oD (0 : Int32) T3.heap n0 Z3 Q3_0 E_x1_3 Q3_2 Q3_1 (A_DEFAULTCAPACITY_EMPTY_ELEMENTDATA.ext O3.2) O3 Q3_3 g_b2 (O3.ne A_DEFAULTCAPACITY_EMPTY_ELEMENTDATA.lt g_b2) S_DEFAULTCAPACITY_EMPTY_ELEMENTDATA A_DEFAULTCAPACITY_EMPTY_ELEMENTDATA) hZ (hw _ (List.mem_of_getElem? (i := 105) rfl)) (hw _ (List.mem_of_getElem? (i := 35) rfl)) (by decide) (by decide)) q5a q5b q5c (g := (mkF m 19 #[.val (.ref a1), .val (.ref b2), .val (.ref x1)] [(.ref x1), (.ref b2)])) rfl (by rw [hml]; rfl) (Steps.refl _) (argsL := [(.ref x1)]) (rest := []) (lenOf pd_8 rfl) rfl (by show 2 * 0 + _ ≤ _; exact Nat.le_of_eq rfl) (hb hby d10_19) (fun _ _ => ⟨rfl, e4, (by decide : 1 + 1 ≤ _), (by decide : 3 + 10 ≤ _)⟩)
  dsimp only [Pt.U, Pt.locs, Pt.cells, Pt.slots] at X5 l5 y5 z5 st5 hQ5
  subst l5 y5 z5
  obtain ⟨b5_0, rfl, N5q, K5, sz5_0, Q5_0, Q5_1, Q5_2, Q5_3, Q5_4⟩ := hQ5
  have N5 := Fr.app N3 N5q
  have g_b5_0 : n0 ≤ b5_0 := Nat.le_trans Z3 sz5_0
  have sz_b5_0 : h0.size ≤ b5_0 := Nat.le_trans KK3.1 sz5_0
  have ne_a1_b5_0 : a1 ≠ b5_0 := Nat.ne_of_lt (Nat.lt_of_lt_of_le F_firstChild_a1_3.lt sz5_0)
  have ne_x1_b5_0 : x1 ≠ b5_0 := Nat.ne_of_lt (Nat.lt_of_lt_of_le E_x1_3.lt sz5_0)
  have ne_b2_b5_0 : b2 ≠ b5_0 := Nat.ne_of_lt (Nat.lt_of_lt_of_le Q3_0.lt sz5_0)
  have F_firstChild_a1_5 := F_firstChild_a1_3.keep K5 (ninS ne_a1_b2 nin0)
  have E_x1_5 := E_x1_3.keep K5
  have F_next_x1_5 := F_next_x1_3.keep K5 (ninS ne_x1_b2 nin0)
  have E_b2_5 := Q3_0.keep K5
  have O5 := O3.keep K5 (allS g_b2 all0)
  have Z5 := Nat.le_trans Z3 K5.1
  have KK5 : Keep h0 T5.heap [] := KK3.trans K5 (allS (Or.inr sz_b2) all0)
  clear F_firstChild_a1_3 E_x1_3 F_next_x1_3 Q3_0 O3 Z3 KK3 K5
  refine Go.trans st5 ?_
  show Go p e below _ (T5.setTop (mkF m 24 #[.val (.ref a1), .val (.ref b2), .val (.ref x1)] [(.int (1 : Int32))]))
  refine Go.step (fun t k => XS.pop X5.here hx rfl (hb hby d10_24) rfl rfl k) ?_
  show Go p e below _ (T5.setTop (mkF m 25 #[.val (.ref a1), .val (.ref b2), .val (.ref x1)] []))
  refine Go.step (fun t k => XS.aloadN X5.here hx rfl (hb hby d10_25) rfl rfl k) ?_
  show Go p e below _ (T5.setTop (mkF m 26 #[.val (.ref a1), .val (.ref b2), .val (.ref x1)] [(.ref x1)]))
  obtain ⟨T6, X6, e6, st6⟩ := getF X5 hx hZ hown (host := "") (Or.inl (hw _ (List.mem_of_getElem? (i := 96) rfl))) Via.refl rfl F_next_x1_5 (g := (mkF m 26 #[.val (.ref a1), .val (.ref b2), .val (.ref x1)] [(.ref x1)])) rfl rfl (hb hby d10_26)
  refine Go.step st6 ?_
  show Go p e below _ (T6.setTop (mkF m 29 #[.val (.ref a1), .val (.ref b2), .val (.ref x1)] [.null]))
  refine Go.step (fun t k => XS.astoreN X6.here hx rfl (hb hby d10_29) rfl rfl (l' := #[.val (.ref a1), .val (.ref b2), .val .null]) rfl k) ?_
  show Go p e below _ (T6.setTop (mkF m 30 #[.val (.ref a1), .val (.ref b2), .val .null] []))
  refine Go.step (fun t k => XS.goto X6.here hx rfl (pc0 := 30) (pc' := 13) rfl (hb hby d10_30) (by decide) (by decide) k) ?_
  show Go p e below _ (T6.setTop (mkF m 13 #[.val (.ref a1), .val (.ref b2), .val .null] []))
  refine Go.step (fun t k => XS.aloadN X6.here hx rfl (hb hby d10_13) rfl rfl k) ?_
  show Go p e below _ (T6.setTop (mkF m 14 #[.val (.ref a1), .val (.ref b2), .val .null] [.null]))
  refine Go.step (fun t k => XS.ifnullYes X6.here hx rfl (pc0 := 14) (pc' := 33) rfl (hb hby d10_14) rfl (by decide) (by decide) k) ?_
  show Go p e below _ (T6.setTop (mkF m 33 #[.val (.ref a1), .val (.ref b2), .val .null] []))
  refine Go.step (fun t k => XS.aloadN X6.here hx rfl (hb hby d10_33) rfl rfl k) ?_
  show Go p e below _ (T6.setTop (mkF m 34 #[.val (.ref a1), .val (.ref b2), .val .null] [(.ref b2)]))
  refine retGR X6 hx Bd.notSynchronized Bd.returns rfl rfl (hb hby d10_34) ?_ (by decide) (by decide)
  show Q10_1 Z a1 x1 oD h0 n0 _ T6.heap _
  rw [e6]
  exact ⟨b2, b5_0, rfl, N5, KK5, sz_b2, sz_b5_0, Q5_0, Q5_1, Q5_2, Q5_3, Q5_4⟩
theorem ef_10_2 (m : MethodId) (a1 : Addr) : entryFrame m #[(.ref a1)] 3 = mkF m 0 #[.val (.ref a1), .unset, .unset] [] := by first | (simp [entryFrame, mkF, argsToLocals, Value.category]; done) | rfl
def Q10_2 (Z : State) (a1 : Addr) (x1 : Addr) (x2 : Addr) (oD : Addr) (h0 : Heap) (n0 : Nat) (v : Option Value) (h : Heap) (L : List Loc) : Prop := ∃ (b2 : Addr) (b5_0 : Addr), v = some (.ref b2) ∧ Fr n0 L ∧ Keep h0 h [] ∧ h0.size ≤ b2 ∧ h0.size ≤ b5_0 ∧ Exa Z h b2 "java/util/ArrayList" ∧ Fld Z h b2 "java/util/ArrayList" "size" "I" (.int (2 : Int32)) ∧ Fld Z h b2 "java/util/ArrayList" "elementData" "[Ljava/lang/Object;" (.ref b5_0) ∧ Fld Z h b2 "java/util/AbstractList" "modCount" "I" (.int (2 : Int32)) ∧ RAry Z h b5_0 (.object "java/lang/Object") "java/lang/Object" 10 (upA (upA (fun _ => .null) 0 (.ref x1)) 1 (.ref x2))
set_option maxRecDepth 65536 in
set_option maxHeartbeats 40000000 in
theorem rm10_2 (l : Launch) (Z : State) (a0 : Array Value) (hw : ∀ d ∈ tables_1, d.before a0 Z = true) (ws : List Jvm.Cond) (a1 : Addr) (x1 : Addr) (x2 : Addr) (oD : Addr) (h0 : Heap) (n0 : Nat) (Z0 : n0 ≤ h0.size) (F_firstChild_a1 : Fld Z h0 a1 "com/example/dataflow_to_dispatch/dataflowtodispatch/model/document/XmlElement" "firstChild" "Lcom/example/dataflow_to_dispatch/dataflowtodispatch/model/document/XmlElement;" (.ref x1)) (E_x1 : Exa Z h0 x1 "com/example/dataflow_to_dispatch/dataflowtodispatch/model/document/XmlElement") (F_next_x1 : Fld Z h0 x1 "com/example/dataflow_to_dispatch/dataflowtodispatch/model/document/XmlElement" "next" "Lcom/example/dataflow_to_dispatch/dataflowtodispatch/model/document/XmlElement;" (.ref x2)) (E_x2 : Exa Z h0 x2 "com/example/dataflow_to_dispatch/dataflowtodispatch/model/document/XmlElement") (F_next_x2 : Fld Z h0 x2 "com/example/dataflow_to_dispatch/dataflowtodispatch/model/document/XmlElement" "next" "Lcom/example/dataflow_to_dispatch/dataflowtodispatch/model/document/XmlElement;" .null) (hO : Old Z n0 h0) (S_DEFAULTCAPACITY_EMPTY_ELEMENTDATA : Sta Z Z.heap "java/util/ArrayList" "DEFAULTCAPACITY_EMPTY_ELEMENTDATA" "[Ljava/lang/Object;" (.ref oD)) (A_DEFAULTCAPACITY_EMPTY_ELEMENTDATA : Ary Z Z.heap oD (.object "java/lang/Object") 0 (fun _ => Value.null)) :
    MetFree l (⟨"com/example/dataflow_to_dispatch/dataflowtodispatch/model/document/XmlElement", "children", "()Ljava/util/List;"⟩ : MethodName) (head1 (Jvm.Cond.code (⟨"com/example/dataflow_to_dispatch/dataflowtodispatch/model/document/XmlElement", "children", "()Ljava/util/List;"⟩ : MethodName) prog_109_method_6_code 3 (some (.object "java/util/List")) :: ws) ({ frames := 5, cells := 2, slots := 13, locals := 69 } : Room)) (fun a U => a = #[(.ref a1)] ∧ Z.Warmed39 U.vm ∧ U.heap = h0) (fun _ _ _ _ _ => True) (fun _ U o U' => ∃ v L, o = .returned v ∧ Q10_2 Z a1 x1 x2 oD h0 n0 v U'.heap L ∧ FrameEnd U o U' L ({ frames := 5, cells := 2, slots := 13, locals := 69 } : Room).cells ({ frames := 5, cells := 2, slots := 13, locals := 69 } : Room).slots) := by
  refine MetFree.of_bodySF (plainFor_of_name pn_5) hisR ?_
  intro p e s m args below meth c s₁ Bd hml0 hP hK
  obtain ⟨rfl, hZ, hh⟩ := hP
  have hx := Bd.exec
  have hby := Bd.bytes
  have hml : c.maxLocals = 3 := hml0
  have hown : s.vm.findClass "com/example/dataflow_to_dispatch/dataflowtodispatch/model/document/XmlElement" = some m.cls := findClass_of_methodNamed Bd.named
  have hnm := (name_of_methodNamed Bd.named Bd.method).1
  have X0 : Stand p l e ({ frames := 5, cells := 2, slots := 13, locals := 69 } : Room) s m #[(.ref a1)] below meth c s₁ [] 0 0 := Stand.of_body Bd
  have e0 : s₁.heap = h0 := by rw [← hh, Bd.state]; rfl
  have N0 := Fr.nil n0
  refine Go.done (Go.step (fun t k => castTop (ef_10_2 m a1) k) ?_)
  have KK0 : Keep h0 h0 [] := Keep.refl _ _
  show Go p e below _ (s₁.setTop (mkF m 0 #[.val (.ref a1), .unset, .unset] []))
  obtain ⟨T2, h2, X2, e2, E2, A2, D2, -, st2⟩ := newO X0 hx hZ hown (hw _ (List.mem_of_getElem? (i := 33) rfl)) (hw _ (List.mem_of_getElem? (i := 34) rfl)) (hw _ (List.mem_of_getElem? (i := 35) rfl)) e0 (g := (mkF m 0 #[.val (.ref a1), .unset, .unset] [])) rfl (hb hby d10_0) (by decide) (by decide)
  obtain ⟨b2, g2⟩ : ∃ z, z = h0.size := ⟨_, rfl⟩
  rw [← g2] at A2 D2 st2
  have g_b2 : n0 ≤ b2 := Nat.le_trans Z0 (Nat.le_of_eq g2.symm)
  have sz_b2 : h0.size ≤ b2 := Nat.le_trans KK0.1 (Nat.le_of_eq g2.symm)
  have ne_a1_b2 : a1 ≠ b2 := Nat.ne_of_lt (Nat.lt_of_lt_of_le F_firstChild_a1.lt (Nat.le_of_eq g2.symm))
  have ne_x1_b2 : x1 ≠ b2 := Nat.ne_of_lt (Nat.lt_of_lt_of_le E_x1.lt (Nat.le_of_eq g2.symm))
  have ne_x2_b2 : x2 ≠ b2 := Nat.ne_of_lt (Nat.lt_of_lt_of_le E_x2.lt (Nat.le_of_eq g2.symm))
  refine Go.step st2 ?_
  have F_firstChild_a1_2 := F_firstChild_a1.ext E2
  have E_x1_2 := E_x1.ext E2
  have F_next_x1_2 := F_next_x1.ext E2
  have E_x2_2 := E_x2.ext E2
  have F_next_x2_2 := F_next_x2.ext E2
  have O2 := hO.ext E2
  have Z2 := Nat.le_trans Z0 E2.1
  have KK2 : Keep h0 h2 [] := KK0.ext E2
  clear F_firstChild_a1 E_x1 F_next_x1 E_x2 F_next_x2 hO Z0 KK0 E2
  have F_modCount_b2 : Fld Z h2 b2 "java/util/AbstractList" "modCount" "I" (.int (0 : Int32)) := D2 (Or.inl (hw _ (List.mem_of_getElem? (i := 53) rfl))) (ty := .int) (by decide)
  have F_elementData_b2 : Fld Z h2 b2 "java/util/ArrayList" "elementData" "[Ljava/lang/Object;" .null := D2 (Or.inl (hw _ (List.mem_of_getElem? (i := 56) rfl))) (ty := (.array (.object "java/lang/Object"))) (by decide)
  have F_size_b2 : Fld Z h2 b2 "java/util/ArrayList" "size" "I" (.int (0 : Int32)) := D2 (Or.inl (hw _ (List.mem_of_getElem? (i := 80) rfl))) (ty := .int) (by decide)
  show Go p e below _ (T2.setTop (mkF m 3 #[.val (.ref a1), .unset, .unset] [(.ref b2)]))
  refine Go.step (fun t k => XS.dup X2.here hx rfl (hb hby d10_3) rfl rfl k) ?_
  show Go p e below _ (T2.setTop (mkF m 4 #[.val (.ref a1), .unset, .unset] [(.ref b2), (.ref b2)]))
  obtain ⟨_, _, ⟨T3, L3, k3, n3⟩, -, X3, ⟨Lc3, hQ3, l3, y3, z3⟩, st3⟩ := X2.specialBack hx (y := (⟨"java/util/ArrayList", "<init>", "()V"⟩ : MethodName)) rfl hown (mvT hZ (hw _ (List.mem_of_getElem? (i := 36) rfl))) (mvT hZ (hw _ (List.mem_of_getElem? (i := 37) rfl))) (mvT hZ (hw _ (List.mem_of_getElem? (i := 38) rfl))) (by decide) (backOf (W := 1) (rm7 l Z a0 hw [] b2 (.int (0 : Int32)) .null (.int (0 : Int32)) oD h2 n0 Z2 A2 F_size_b2 O2 F_elementData_b2 F_modCount_b2 g_b2 S_DEFAULTCAPACITY_EMPTY_ELEMENTDATA A_DEFAULTCAPACITY_EMPTY_ELEMENTDATA) hZ (hw _ (List.mem_of_getElem? (i := 38) rfl)) (hw _ (List.mem_of_getElem? (i := 35) rfl)) (by decide) (by decide)) (g := (mkF m 4 #[.val (.ref a1), .unset, .unset] [(.ref b2), (.ref b2)])) rfl (by rw [hml]; rfl) (Steps.refl _) (a := b2) (argsL := []) (rest := [(.ref b2)]) (lenOf pd_3 rfl) rfl (by show 2 * 0 + _ ≤ _; exact Nat.le_of_eq rfl) (hb hby d10_4) (fun _ _ => ⟨rfl, e2, (by decide : 1 + 0 ≤ _), (by decide : 3 + 0 ≤ _)⟩)
  dsimp only [Pt.U, Pt.locs, Pt.cells, Pt.slots] at X3 l3 y3 z3 st3 hQ3
  subst l3 y3 z3
  obtain ⟨rfl, N3q, K3, Q3_0, Q3_1, Q3_2, Q3_3⟩ := hQ3
  have N3 := Fr.app N0 N3q
  have F_firstChild_a1_3 := F_firstChild_a1_2.keep K3 (ninS ne_a1_b2 nin0)
  have E_x1_3 := E_x1_2.keep K3
  have F_next_x1_3 := F_next_x1_2.keep K3 (ninS ne_x1_b2 nin0)
  have E_x2_3 := E_x2_2.keep K3
  have F_next_x2_3 := F_next_x2_2.keep K3 (ninS ne_x2_b2 nin0)
  have E_b2_3 := A2.keep K3
  have O3 := O2.keep K3 (allS g_b2 all0)
  have Z3 := Nat.le_trans Z2 K3.1
  have KK3 : Keep h0 T3.heap [] := KK2.trans K3 (allS (Or.inr sz_b2) all0)
  clear F_firstChild_a1_2 E_x1_2 F_next_x1_2 E_x2_2 F_next_x2_2 A2 O2 Z2 KK2 K3
  refine Go.trans st3 ?_
  show Go p e below _ (T3.setTop (mkF m 7 #[.val (.ref a1), .unset, .unset] [(.ref b2)]))
  refine Go.step (fun t k => XS.astoreN X3.here hx rfl (hb hby d10_7) rfl rfl (l' := #[.val (.ref a1), .val (.ref b2), .unset]) rfl k) ?_
  show Go p e below _ (T3.setTop (mkF m 8 #[.val (.ref a1), .val (.ref b2), .unset] []))
  refine Go.step (fun t k => XS.aloadN X3.here hx rfl (hb hby d10_8) rfl rfl k) ?_
  show Go p e below _ (T3.setTop (mkF m 9 #[.val (.ref a1), .val (.ref b2), .unset] [(.ref a1)]))
  obtain ⟨T4, X4, e4, st4⟩ := getF X3 hx hZ hown (host := "") (Or.inl (hw _ (List.mem_of_getElem? (i := 68) rfl))) Via.refl rfl F_firstChild_a1_3 (g := (mkF m 9 #[.val (.ref a1), .val (.ref b2), .unset] [(.ref a1)])) rfl rfl (hb hby d10_9)
  refine Go.step st4 ?_
  show Go p e below _ (T4.setTop (mkF m 12 #[.val (.ref a1), .val (.ref b2), .unset] [(.ref x1)]))
  refine Go.step (fun t k => XS.astoreN X4.here hx rfl (hb hby d10_12) rfl rfl (l' := #[.val (.ref a1), .val (.ref b2), .val (.ref x1)]) rfl k) ?_
  show Go p e below _ (T4.setTop (mkF m 13 #[.val (.ref a1), .val (.ref b2), .val (.ref x1)] []))
  refine Go.step (fun t k => XS.aloadN X4.here hx rfl (hb hby d10_13) rfl rfl k) ?_
  show Go p e below _ (T4.setTop (mkF m 14 #[.val (.ref a1), .val (.ref b2), .val (.ref x1)] [(.ref x1)]))
  refine Go.step (fun t k => XS.ifnullNo X4.here hx rfl (hb hby d10_14) rfl k) ?_
  show Go p e below _ (T4.setTop (mkF m 17 #[.val (.ref a1), .val (.ref b2), .val (.ref x1)] []))
  refine Go.step (fun t k => XS.aloadN X4.here hx rfl (hb hby d10_17) rfl rfl k) ?_
  show Go p e below _ (T4.setTop (mkF m 18 #[.val (.ref a1), .val (.ref b2), .val (.ref x1)] [(.ref b2)]))
  refine Go.step (fun t k => XS.aloadN X4.here hx rfl (hb hby d10_18) rfl rfl k) ?_
  show Go p e below _ (T4.setTop (mkF m 19 #[.val (.ref a1), .val (.ref b2), .val (.ref x1)] [(.ref x1), (.ref b2)]))
  obtain ⟨cq5, kq5, q5a, q5b, q5c⟩ := isOf hZ e4 Q3_0
  obtain ⟨_, _, ⟨T5, L5, k5, n5⟩, -, X5, ⟨Lc5, hQ5, l5, y5, z5⟩, st5⟩ := X4.interfaceBack hx (xi := (⟨"java/util/List", "add", "(Ljava/lang/Object;)Z"⟩ : MethodName)) (y := (⟨"java/util/ArrayList", "add", "(Ljava/lang/Object;)Z"⟩ : MethodName)) hown (mvT hZ (hw _ (List.mem_of_getElem? (i := 98) rfl))) (mvT hZ (hw _ (List.mem_of_getElem? (i := 99) rfl))) (mvT hZ (hw _ (List.mem_of_getElem? (i := 100) rfl))) (mvT hZ (hw _ (List.mem_of_getElem? (i := 101) rfl))) (mvT hZ (hw _ (List.mem_of_getElem? (i := 102) rfl))) (mvT hZ (hw _ (List.mem_of_getElem? (i := 103) rfl))) (mvT hZ (hw _ (List.mem_of_getElem? (i := 104) rfl))) (mvT hZ (hw _ (List.mem_of_getElem? (i := 77) rfl))) (by decide) (backOf (W := 0) (rm14_0 l Z a0 hw [] b2 x1 oD (0 : Int32) T3.heap n0 Z3 Q3_0 E_x1_3 Q3_2 Q3_1 (A_DEFAULTCAPACITY_EMPTY_ELEMENTDATA.ext O3.2) O3 Q3_3 g_b2 (O3.ne A_DEFAULTCAPACITY_EMPTY_ELEMENTDATA.lt g_b2) S_DEFAULTCAPACITY_EMPTY_ELEMENTDATA A_DEFAULTCAPACITY_EMPTY_ELEMENTDATA) hZ (hw _ (List.mem_of_getElem? (i := 105) rfl)) (hw _ (List.mem_of_getElem? (i := 35) rfl)) (by decide) (by decide)) q5a q5b q5c (g := (mkF m 19 #[.val (.ref a1), .val (.ref b2), .val (.ref x1)] [(.ref x1), (.ref b2)])) rfl (by rw [hml]; rfl) (Steps.refl _) (argsL := [(.ref x1)]) (rest := []) (lenOf pd_8 rfl) rfl (by show 2 * 0 + _ ≤ _; exact Nat.le_of_eq rfl) (hb hby d10_19) (fun _ _ => ⟨rfl, e4, (by decide : 1 + 1 ≤ _), (by decide : 3 + 10 ≤ _)⟩)
  dsimp only [Pt.U, Pt.locs, Pt.cells, Pt.slots] at X5 l5 y5 z5 st5 hQ5
  subst l5 y5 z5
  obtain ⟨b5_0, rfl, N5q, K5, sz5_0, Q5_0, Q5_1, Q5_2, Q5_3, Q5_4⟩ := hQ5
  have N5 := Fr.app N3 N5q
  have g_b5_0 : n0 ≤ b5_0 := Nat.le_trans Z3 sz5_0
  have sz_b5_0 : h0.size ≤ b5_0 := Nat.le_trans KK3.1 sz5_0
  have ne_a1_b5_0 : a1 ≠ b5_0 := Nat.ne_of_lt (Nat.lt_of_lt_of_le F_firstChild_a1_3.lt sz5_0)
  have ne_x1_b5_0 : x1 ≠ b5_0 := Nat.ne_of_lt (Nat.lt_of_lt_of_le E_x1_3.lt sz5_0)
  have ne_x2_b5_0 : x2 ≠ b5_0 := Nat.ne_of_lt (Nat.lt_of_lt_of_le E_x2_3.lt sz5_0)
  have ne_b2_b5_0 : b2 ≠ b5_0 := Nat.ne_of_lt (Nat.lt_of_lt_of_le Q3_0.lt sz5_0)
  have F_firstChild_a1_5 := F_firstChild_a1_3.keep K5 (ninS ne_a1_b2 nin0)
  have E_x1_5 := E_x1_3.keep K5
  have F_next_x1_5 := F_next_x1_3.keep K5 (ninS ne_x1_b2 nin0)
  have E_x2_5 := E_x2_3.keep K5
  have F_next_x2_5 := F_next_x2_3.keep K5 (ninS ne_x2_b2 nin0)
  have E_b2_5 := Q3_0.keep K5
  have O5 := O3.keep K5 (allS g_b2 all0)
  have Z5 := Nat.le_trans Z3 K5.1
  have KK5 : Keep h0 T5.heap [] := KK3.trans K5 (allS (Or.inr sz_b2) all0)
  clear F_firstChild_a1_3 E_x1_3 F_next_x1_3 E_x2_3 F_next_x2_3 Q3_0 O3 Z3 KK3 K5
  refine Go.trans st5 ?_
  show Go p e below _ (T5.setTop (mkF m 24 #[.val (.ref a1), .val (.ref b2), .val (.ref x1)] [(.int (1 : Int32))]))
  refine Go.step (fun t k => XS.pop X5.here hx rfl (hb hby d10_24) rfl rfl k) ?_
  show Go p e below _ (T5.setTop (mkF m 25 #[.val (.ref a1), .val (.ref b2), .val (.ref x1)] []))
  refine Go.step (fun t k => XS.aloadN X5.here hx rfl (hb hby d10_25) rfl rfl k) ?_
  show Go p e below _ (T5.setTop (mkF m 26 #[.val (.ref a1), .val (.ref b2), .val (.ref x1)] [(.ref x1)]))
  obtain ⟨T6, X6, e6, st6⟩ := getF X5 hx hZ hown (host := "") (Or.inl (hw _ (List.mem_of_getElem? (i := 96) rfl))) Via.refl rfl F_next_x1_5 (g := (mkF m 26 #[.val (.ref a1), .val (.ref b2), .val (.ref x1)] [(.ref x1)])) rfl rfl (hb hby d10_26)
  refine Go.step st6 ?_
  show Go p e below _ (T6.setTop (mkF m 29 #[.val (.ref a1), .val (.ref b2), .val (.ref x1)] [(.ref x2)]))
  refine Go.step (fun t k => XS.astoreN X6.here hx rfl (hb hby d10_29) rfl rfl (l' := #[.val (.ref a1), .val (.ref b2), .val (.ref x2)]) rfl k) ?_
  show Go p e below _ (T6.setTop (mkF m 30 #[.val (.ref a1), .val (.ref b2), .val (.ref x2)] []))
  refine Go.step (fun t k => XS.goto X6.here hx rfl (pc0 := 30) (pc' := 13) rfl (hb hby d10_30) (by decide) (by decide) k) ?_
  show Go p e below _ (T6.setTop (mkF m 13 #[.val (.ref a1), .val (.ref b2), .val (.ref x2)] []))
  refine Go.step (fun t k => XS.aloadN X6.here hx rfl (hb hby d10_13) rfl rfl k) ?_
  show Go p e below _ (T6.setTop (mkF m 14 #[.val (.ref a1), .val (.ref b2), .val (.ref x2)] [(.ref x2)]))
  refine Go.step (fun t k => XS.ifnullNo X6.here hx rfl (hb hby d10_14) rfl k) ?_
  show Go p e below _ (T6.setTop (mkF m 17 #[.val (.ref a1), .val (.ref b2), .val (.ref x2)] []))
  refine Go.step (fun t k => XS.aloadN X6.here hx rfl (hb hby d10_17) rfl rfl k) ?_
  show Go p e below _ (T6.setTop (mkF m 18 #[.val (.ref a1), .val (.ref b2), .val (.ref x2)] [(.ref b2)]))
  refine Go.step (fun t k => XS.aloadN X6.here hx rfl (hb hby d10_18) rfl rfl k) ?_
  show Go p e below _ (T6.setTop (mkF m 19 #[.val (.ref a1), .val (.ref b2), .val (.ref x2)] [(.ref x2), (.ref b2)]))
  obtain ⟨cq7, kq7, q7a, q7b, q7c⟩ := isOf hZ e6 Q5_0
  obtain ⟨_, _, ⟨T7, L7, k7, n7⟩, -, X7, ⟨Lc7, hQ7, l7, y7, z7⟩, st7⟩ := X6.interfaceBack hx (xi := (⟨"java/util/List", "add", "(Ljava/lang/Object;)Z"⟩ : MethodName)) (y := (⟨"java/util/ArrayList", "add", "(Ljava/lang/Object;)Z"⟩ : MethodName)) hown (mvT hZ (hw _ (List.mem_of_getElem? (i := 98) rfl))) (mvT hZ (hw _ (List.mem_of_getElem? (i := 99) rfl))) (mvT hZ (hw _ (List.mem_of_getElem? (i := 100) rfl))) (mvT hZ (hw _ (List.mem_of_getElem? (i := 101) rfl))) (mvT hZ (hw _ (List.mem_of_getElem? (i := 102) rfl))) (mvT hZ (hw _ (List.mem_of_getElem? (i := 103) rfl))) (mvT hZ (hw _ (List.mem_of_getElem? (i := 104) rfl))) (mvT hZ (hw _ (List.mem_of_getElem? (i := 77) rfl))) (by decide) (backOf (W := 0) (rm14_1 l Z a0 hw [] b2 x2 b5_0 (upA (fun _ => .null) 0 (.ref x1)) (1 : Int32) T5.heap n0 Z5 Q5_0 E_x2_5 Q5_2 Q5_1 Q5_4 Q5_3 g_b2 (Ne.symm ne_b2_b5_0) g_b5_0 ne_b2_b5_0) hZ (hw _ (List.mem_of_getElem? (i := 105) rfl)) (hw _ (List.mem_of_getElem? (i := 35) rfl)) (by decide) (by decide)) q7a q7b q7c (g := (mkF m 19 #[.val (.ref a1), .val (.ref b2), .val (.ref x2)] [(.ref x2), (.ref b2)])) rfl (by rw [hml]; rfl) (Steps.refl _) (argsL := [(.ref x2)]) (rest := []) (lenOf pd_8 rfl) rfl (by show 2 * 0 + _ ≤ _; exact Nat.le_of_eq rfl) (hb hby d10_19) (fun _ _ => ⟨rfl, e6, (by decide : 2 + 0 ≤ _), (by decide : 13 + 0 ≤ _)⟩)
  dsimp only [Pt.U, Pt.locs, Pt.cells, Pt.slots] at X7 l7 y7 z7 st7 hQ7
  subst l7 y7 z7
  obtain ⟨rfl, N7q, K7, Q7_0, Q7_1, Q7_2, Q7_3, Q7_4⟩ := hQ7
  have N7 := Fr.app N5 N7q
  have F_firstChild_a1_7 := F_firstChild_a1_5.keep K7 (ninS ne_a1_b2 (ninS ne_a1_b5_0 nin0))
  have E_x1_7 := E_x1_5.keep K7
  have F_next_x1_7 := F_next_x1_5.keep K7 (ninS ne_x1_b2 (ninS ne_x1_b5_0 nin0))
  have E_x2_7 := E_x2_5.keep K7
  have F_next_x2_7 := F_next_x2_5.keep K7 (ninS ne_x2_b2 (ninS ne_x2_b5_0 nin0))
  have E_b2_7 := Q5_0.keep K7
  have O7 := O5.keep K7 (allS g_b2 (allS g_b5_0 all0))
  have Z7 := Nat.le_trans Z5 K7.1
  have KK7 : Keep h0 T7.heap [] := KK5.trans K7 (allS (Or.inr sz_b2) (allS (Or.inr sz_b5_0) all0))
  clear F_firstChild_a1_5 E_x1_5 F_next_x1_5 E_x2_5 F_next_x2_5 Q5_0 O5 Z5 KK5 K7
  refine Go.trans st7 ?_
  show Go p e below _ (T7.setTop (mkF m 24 #[.val (.ref a1), .val (.ref b2), .val (.ref x2)] [(.int (1 : Int32))]))
  refine Go.step (fun t k => XS.pop X7.here hx rfl (hb hby d10_24) rfl rfl k) ?_
  show Go p e below _ (T7.setTop (mkF m 25 #[.val (.ref a1), .val (.ref b2), .val (.ref x2)] []))
  refine Go.step (fun t k => XS.aloadN X7.here hx rfl (hb hby d10_25) rfl rfl k) ?_
  show Go p e below _ (T7.setTop (mkF m 26 #[.val (.ref a1), .val (.ref b2), .val (.ref x2)] [(.ref x2)]))
  obtain ⟨T8, X8, e8, st8⟩ := getF X7 hx hZ hown (host := "") (Or.inl (hw _ (List.mem_of_getElem? (i := 96) rfl))) Via.refl rfl F_next_x2_7 (g := (mkF m 26 #[.val (.ref a1), .val (.ref b2), .val (.ref x2)] [(.ref x2)])) rfl rfl (hb hby d10_26)
  refine Go.step st8 ?_
  show Go p e below _ (T8.setTop (mkF m 29 #[.val (.ref a1), .val (.ref b2), .val (.ref x2)] [.null]))
  refine Go.step (fun t k => XS.astoreN X8.here hx rfl (hb hby d10_29) rfl rfl (l' := #[.val (.ref a1), .val (.ref b2), .val .null]) rfl k) ?_
  show Go p e below _ (T8.setTop (mkF m 30 #[.val (.ref a1), .val (.ref b2), .val .null] []))
  refine Go.step (fun t k => XS.goto X8.here hx rfl (pc0 := 30) (pc' := 13) rfl (hb hby d10_30) (by decide) (by decide) k) ?_
  show Go p e below _ (T8.setTop (mkF m 13 #[.val (.ref a1), .val (.ref b2), .val .null] []))
  refine Go.step (fun t k => XS.aloadN X8.here hx rfl (hb hby d10_13) rfl rfl k) ?_
  show Go p e below _ (T8.setTop (mkF m 14 #[.val (.ref a1), .val (.ref b2), .val .null] [.null]))
  refine Go.step (fun t k => XS.ifnullYes X8.here hx rfl (pc0 := 14) (pc' := 33) rfl (hb hby d10_14) rfl (by decide) (by decide) k) ?_
  show Go p e below _ (T8.setTop (mkF m 33 #[.val (.ref a1), .val (.ref b2), .val .null] []))
  refine Go.step (fun t k => XS.aloadN X8.here hx rfl (hb hby d10_33) rfl rfl k) ?_
  show Go p e below _ (T8.setTop (mkF m 34 #[.val (.ref a1), .val (.ref b2), .val .null] [(.ref b2)]))
  refine retGR X8 hx Bd.notSynchronized Bd.returns rfl rfl (hb hby d10_34) ?_ (by decide) (by decide)
  show Q10_2 Z a1 x1 x2 oD h0 n0 _ T8.heap _
  rw [e8]
  exact ⟨b2, b5_0, rfl, N7, KK7, sz_b2, sz_b5_0, Q7_0, Q7_1, Q7_2, Q7_3, Q7_4⟩
theorem ef_10_3 (m : MethodId) (a1 : Addr) : entryFrame m #[(.ref a1)] 3 = mkF m 0 #[.val (.ref a1), .unset, .unset] [] := by first | (simp [entryFrame, mkF, argsToLocals, Value.category]; done) | rfl
def Q10_3 (Z : State) (a1 : Addr) (x1 : Addr) (x2 : Addr) (x3 : Addr) (oD : Addr) (h0 : Heap) (n0 : Nat) (v : Option Value) (h : Heap) (L : List Loc) : Prop := ∃ (b2 : Addr) (b5_0 : Addr), v = some (.ref b2) ∧ Fr n0 L ∧ Keep h0 h [] ∧ h0.size ≤ b2 ∧ h0.size ≤ b5_0 ∧ Exa Z h b2 "java/util/ArrayList" ∧ Fld Z h b2 "java/util/ArrayList" "size" "I" (.int (3 : Int32)) ∧ Fld Z h b2 "java/util/ArrayList" "elementData" "[Ljava/lang/Object;" (.ref b5_0) ∧ Fld Z h b2 "java/util/AbstractList" "modCount" "I" (.int (3 : Int32)) ∧ RAry Z h b5_0 (.object "java/lang/Object") "java/lang/Object" 10 (upA (upA (upA (fun _ => .null) 0 (.ref x1)) 1 (.ref x2)) 2 (.ref x3))
set_option maxRecDepth 65536 in
set_option maxHeartbeats 40000000 in
theorem rm10_3 (l : Launch) (Z : State) (a0 : Array Value) (hw : ∀ d ∈ tables_1, d.before a0 Z = true) (ws : List Jvm.Cond) (a1 : Addr) (x1 : Addr) (x2 : Addr) (x3 : Addr) (oD : Addr) (h0 : Heap) (n0 : Nat) (Z0 : n0 ≤ h0.size) (F_firstChild_a1 : Fld Z h0 a1 "com/example/dataflow_to_dispatch/dataflowtodispatch/model/document/XmlElement" "firstChild" "Lcom/example/dataflow_to_dispatch/dataflowtodispatch/model/document/XmlElement;" (.ref x1)) (E_x1 : Exa Z h0 x1 "com/example/dataflow_to_dispatch/dataflowtodispatch/model/document/XmlElement") (F_next_x1 : Fld Z h0 x1 "com/example/dataflow_to_dispatch/dataflowtodispatch/model/document/XmlElement" "next" "Lcom/example/dataflow_to_dispatch/dataflowtodispatch/model/document/XmlElement;" (.ref x2)) (E_x2 : Exa Z h0 x2 "com/example/dataflow_to_dispatch/dataflowtodispatch/model/document/XmlElement") (F_next_x2 : Fld Z h0 x2 "com/example/dataflow_to_dispatch/dataflowtodispatch/model/document/XmlElement" "next" "Lcom/example/dataflow_to_dispatch/dataflowtodispatch/model/document/XmlElement;" (.ref x3)) (E_x3 : Exa Z h0 x3 "com/example/dataflow_to_dispatch/dataflowtodispatch/model/document/XmlElement") (F_next_x3 : Fld Z h0 x3 "com/example/dataflow_to_dispatch/dataflowtodispatch/model/document/XmlElement" "next" "Lcom/example/dataflow_to_dispatch/dataflowtodispatch/model/document/XmlElement;" .null) (hO : Old Z n0 h0) (S_DEFAULTCAPACITY_EMPTY_ELEMENTDATA : Sta Z Z.heap "java/util/ArrayList" "DEFAULTCAPACITY_EMPTY_ELEMENTDATA" "[Ljava/lang/Object;" (.ref oD)) (A_DEFAULTCAPACITY_EMPTY_ELEMENTDATA : Ary Z Z.heap oD (.object "java/lang/Object") 0 (fun _ => Value.null)) :
    MetFree l (⟨"com/example/dataflow_to_dispatch/dataflowtodispatch/model/document/XmlElement", "children", "()Ljava/util/List;"⟩ : MethodName) (head1 (Jvm.Cond.code (⟨"com/example/dataflow_to_dispatch/dataflowtodispatch/model/document/XmlElement", "children", "()Ljava/util/List;"⟩ : MethodName) prog_109_method_6_code 3 (some (.object "java/util/List")) :: ws) ({ frames := 5, cells := 2, slots := 13, locals := 69 } : Room)) (fun a U => a = #[(.ref a1)] ∧ Z.Warmed39 U.vm ∧ U.heap = h0) (fun _ _ _ _ _ => True) (fun _ U o U' => ∃ v L, o = .returned v ∧ Q10_3 Z a1 x1 x2 x3 oD h0 n0 v U'.heap L ∧ FrameEnd U o U' L ({ frames := 5, cells := 2, slots := 13, locals := 69 } : Room).cells ({ frames := 5, cells := 2, slots := 13, locals := 69 } : Room).slots) := by
  refine MetFree.of_bodySF (plainFor_of_name pn_5) hisR ?_
  intro p e s m args below meth c s₁ Bd hml0 hP hK
  obtain ⟨rfl, hZ, hh⟩ := hP
  have hx := Bd.exec
  have hby := Bd.bytes
  have hml : c.maxLocals = 3 := hml0
  have hown : s.vm.findClass "com/example/dataflow_to_dispatch/dataflowtodispatch/model/document/XmlElement" = some m.cls := findClass_of_methodNamed Bd.named
  have hnm := (name_of_methodNamed Bd.named Bd.method).1
  have X0 : Stand p l e ({ frames := 5, cells := 2, slots := 13, locals := 69 } : Room) s m #[(.ref a1)] below meth c s₁ [] 0 0 := Stand.of_body Bd
  have e0 : s₁.heap = h0 := by rw [← hh, Bd.state]; rfl
  have N0 := Fr.nil n0
  refine Go.done (Go.step (fun t k => castTop (ef_10_3 m a1) k) ?_)
  have KK0 : Keep h0 h0 [] := Keep.refl _ _
  show Go p e below _ (s₁.setTop (mkF m 0 #[.val (.ref a1), .unset, .unset] []))
  obtain ⟨T2, h2, X2, e2, E2, A2, D2, -, st2⟩ := newO X0 hx hZ hown (hw _ (List.mem_of_getElem? (i := 33) rfl)) (hw _ (List.mem_of_getElem? (i := 34) rfl)) (hw _ (List.mem_of_getElem? (i := 35) rfl)) e0 (g := (mkF m 0 #[.val (.ref a1), .unset, .unset] [])) rfl (hb hby d10_0) (by decide) (by decide)
  obtain ⟨b2, g2⟩ : ∃ z, z = h0.size := ⟨_, rfl⟩
  rw [← g2] at A2 D2 st2
  have g_b2 : n0 ≤ b2 := Nat.le_trans Z0 (Nat.le_of_eq g2.symm)
  have sz_b2 : h0.size ≤ b2 := Nat.le_trans KK0.1 (Nat.le_of_eq g2.symm)
  have ne_a1_b2 : a1 ≠ b2 := Nat.ne_of_lt (Nat.lt_of_lt_of_le F_firstChild_a1.lt (Nat.le_of_eq g2.symm))
  have ne_x1_b2 : x1 ≠ b2 := Nat.ne_of_lt (Nat.lt_of_lt_of_le E_x1.lt (Nat.le_of_eq g2.symm))
  have ne_x2_b2 : x2 ≠ b2 := Nat.ne_of_lt (Nat.lt_of_lt_of_le E_x2.lt (Nat.le_of_eq g2.symm))
  have ne_x3_b2 : x3 ≠ b2 := Nat.ne_of_lt (Nat.lt_of_lt_of_le E_x3.lt (Nat.le_of_eq g2.symm))
  refine Go.step st2 ?_
  have F_firstChild_a1_2 := F_firstChild_a1.ext E2
  have E_x1_2 := E_x1.ext E2
  have F_next_x1_2 := F_next_x1.ext E2
  have E_x2_2 := E_x2.ext E2
  have F_next_x2_2 := F_next_x2.ext E2
  have E_x3_2 := E_x3.ext E2
  have F_next_x3_2 := F_next_x3.ext E2
  have O2 := hO.ext E2
  have Z2 := Nat.le_trans Z0 E2.1
  have KK2 : Keep h0 h2 [] := KK0.ext E2
  clear F_firstChild_a1 E_x1 F_next_x1 E_x2 F_next_x2 E_x3 F_next_x3 hO Z0 KK0 E2
  have F_modCount_b2 : Fld Z h2 b2 "java/util/AbstractList" "modCount" "I" (.int (0 : Int32)) := D2 (Or.inl (hw _ (List.mem_of_getElem? (i := 53) rfl))) (ty := .int) (by decide)
  have F_elementData_b2 : Fld Z h2 b2 "java/util/ArrayList" "elementData" "[Ljava/lang/Object;" .null := D2 (Or.inl (hw _ (List.mem_of_getElem? (i := 56) rfl))) (ty := (.array (.object "java/lang/Object"))) (by decide)
  have F_size_b2 : Fld Z h2 b2 "java/util/ArrayList" "size" "I" (.int (0 : Int32)) := D2 (Or.inl (hw _ (List.mem_of_getElem? (i := 80) rfl))) (ty := .int) (by decide)
  show Go p e below _ (T2.setTop (mkF m 3 #[.val (.ref a1), .unset, .unset] [(.ref b2)]))
  refine Go.step (fun t k => XS.dup X2.here hx rfl (hb hby d10_3) rfl rfl k) ?_
  show Go p e below _ (T2.setTop (mkF m 4 #[.val (.ref a1), .unset, .unset] [(.ref b2), (.ref b2)]))
  obtain ⟨_, _, ⟨T3, L3, k3, n3⟩, -, X3, ⟨Lc3, hQ3, l3, y3, z3⟩, st3⟩ := X2.specialBack hx (y := (⟨"java/util/ArrayList", "<init>", "()V"⟩ : MethodName)) rfl hown (mvT hZ (hw _ (List.mem_of_getElem? (i := 36) rfl))) (mvT hZ (hw _ (List.mem_of_getElem? (i := 37) rfl))) (mvT hZ (hw _ (List.mem_of_getElem? (i := 38) rfl))) (by decide) (backOf (W := 1) (rm7 l Z a0 hw [] b2 (.int (0 : Int32)) .null (.int (0 : Int32)) oD h2 n0 Z2 A2 F_size_b2 O2 F_elementData_b2 F_modCount_b2 g_b2 S_DEFAULTCAPACITY_EMPTY_ELEMENTDATA A_DEFAULTCAPACITY_EMPTY_ELEMENTDATA) hZ (hw _ (List.mem_of_getElem? (i := 38) rfl)) (hw _ (List.mem_of_getElem? (i := 35) rfl)) (by decide) (by decide)) (g := (mkF m 4 #[.val (.ref a1), .unset, .unset] [(.ref b2), (.ref b2)])) rfl (by rw [hml]; rfl) (Steps.refl _) (a := b2) (argsL := []) (rest := [(.ref b2)]) (lenOf pd_3 rfl) rfl (by show 2 * 0 + _ ≤ _; exact Nat.le_of_eq rfl) (hb hby d10_4) (fun _ _ => ⟨rfl, e2, (by decide : 1 + 0 ≤ _), (by decide : 3 + 0 ≤ _)⟩)
  dsimp only [Pt.U, Pt.locs, Pt.cells, Pt.slots] at X3 l3 y3 z3 st3 hQ3
  subst l3 y3 z3
  obtain ⟨rfl, N3q, K3, Q3_0, Q3_1, Q3_2, Q3_3⟩ := hQ3
  have N3 := Fr.app N0 N3q
  have F_firstChild_a1_3 := F_firstChild_a1_2.keep K3 (ninS ne_a1_b2 nin0)
  have E_x1_3 := E_x1_2.keep K3
  have F_next_x1_3 := F_next_x1_2.keep K3 (ninS ne_x1_b2 nin0)
  have E_x2_3 := E_x2_2.keep K3
  have F_next_x2_3 := F_next_x2_2.keep K3 (ninS ne_x2_b2 nin0)
  have E_x3_3 := E_x3_2.keep K3
  have F_next_x3_3 := F_next_x3_2.keep K3 (ninS ne_x3_b2 nin0)
  have E_b2_3 := A2.keep K3
  have O3 := O2.keep K3 (allS g_b2 all0)
  have Z3 := Nat.le_trans Z2 K3.1
  have KK3 : Keep h0 T3.heap [] := KK2.trans K3 (allS (Or.inr sz_b2) all0)
  clear F_firstChild_a1_2 E_x1_2 F_next_x1_2 E_x2_2 F_next_x2_2 E_x3_2 F_next_x3_2 A2 O2 Z2 KK2 K3
  refine Go.trans st3 ?_
  show Go p e below _ (T3.setTop (mkF m 7 #[.val (.ref a1), .unset, .unset] [(.ref b2)]))
  refine Go.step (fun t k => XS.astoreN X3.here hx rfl (hb hby d10_7) rfl rfl (l' := #[.val (.ref a1), .val (.ref b2), .unset]) rfl k) ?_
  show Go p e below _ (T3.setTop (mkF m 8 #[.val (.ref a1), .val (.ref b2), .unset] []))
  refine Go.step (fun t k => XS.aloadN X3.here hx rfl (hb hby d10_8) rfl rfl k) ?_
  show Go p e below _ (T3.setTop (mkF m 9 #[.val (.ref a1), .val (.ref b2), .unset] [(.ref a1)]))
  obtain ⟨T4, X4, e4, st4⟩ := getF X3 hx hZ hown (host := "") (Or.inl (hw _ (List.mem_of_getElem? (i := 68) rfl))) Via.refl rfl F_firstChild_a1_3 (g := (mkF m 9 #[.val (.ref a1), .val (.ref b2), .unset] [(.ref a1)])) rfl rfl (hb hby d10_9)
  refine Go.step st4 ?_
  show Go p e below _ (T4.setTop (mkF m 12 #[.val (.ref a1), .val (.ref b2), .unset] [(.ref x1)]))
  refine Go.step (fun t k => XS.astoreN X4.here hx rfl (hb hby d10_12) rfl rfl (l' := #[.val (.ref a1), .val (.ref b2), .val (.ref x1)]) rfl k) ?_
  show Go p e below _ (T4.setTop (mkF m 13 #[.val (.ref a1), .val (.ref b2), .val (.ref x1)] []))
  refine Go.step (fun t k => XS.aloadN X4.here hx rfl (hb hby d10_13) rfl rfl k) ?_
  show Go p e below _ (T4.setTop (mkF m 14 #[.val (.ref a1), .val (.ref b2), .val (.ref x1)] [(.ref x1)]))
  refine Go.step (fun t k => XS.ifnullNo X4.here hx rfl (hb hby d10_14) rfl k) ?_
  show Go p e below _ (T4.setTop (mkF m 17 #[.val (.ref a1), .val (.ref b2), .val (.ref x1)] []))
  refine Go.step (fun t k => XS.aloadN X4.here hx rfl (hb hby d10_17) rfl rfl k) ?_
  show Go p e below _ (T4.setTop (mkF m 18 #[.val (.ref a1), .val (.ref b2), .val (.ref x1)] [(.ref b2)]))
  refine Go.step (fun t k => XS.aloadN X4.here hx rfl (hb hby d10_18) rfl rfl k) ?_
  show Go p e below _ (T4.setTop (mkF m 19 #[.val (.ref a1), .val (.ref b2), .val (.ref x1)] [(.ref x1), (.ref b2)]))
  obtain ⟨cq5, kq5, q5a, q5b, q5c⟩ := isOf hZ e4 Q3_0
  obtain ⟨_, _, ⟨T5, L5, k5, n5⟩, -, X5, ⟨Lc5, hQ5, l5, y5, z5⟩, st5⟩ := X4.interfaceBack hx (xi := (⟨"java/util/List", "add", "(Ljava/lang/Object;)Z"⟩ : MethodName)) (y := (⟨"java/util/ArrayList", "add", "(Ljava/lang/Object;)Z"⟩ : MethodName)) hown (mvT hZ (hw _ (List.mem_of_getElem? (i := 98) rfl))) (mvT hZ (hw _ (List.mem_of_getElem? (i := 99) rfl))) (mvT hZ (hw _ (List.mem_of_getElem? (i := 100) rfl))) (mvT hZ (hw _ (List.mem_of_getElem? (i := 101) rfl))) (mvT hZ (hw _ (List.mem_of_getElem? (i := 102) rfl))) (mvT hZ (hw _ (List.mem_of_getElem? (i := 103) rfl))) (mvT hZ (hw _ (List.mem_of_getElem? (i := 104) rfl))) (mvT hZ (hw _ (List.mem_of_getElem? (i := 77) rfl))) (by decide) (backOf (W := 0) (rm14_0 l Z a0 hw [] b2 x1 oD (0 : Int32) T3.heap n0 Z3 Q3_0 E_x1_3 Q3_2 Q3_1 (A_DEFAULTCAPACITY_EMPTY_ELEMENTDATA.ext O3.2) O3 Q3_3 g_b2 (O3.ne A_DEFAULTCAPACITY_EMPTY_ELEMENTDATA.lt g_b2) S_DEFAULTCAPACITY_EMPTY_ELEMENTDATA A_DEFAULTCAPACITY_EMPTY_ELEMENTDATA) hZ (hw _ (List.mem_of_getElem? (i := 105) rfl)) (hw _ (List.mem_of_getElem? (i := 35) rfl)) (by decide) (by decide)) q5a q5b q5c (g := (mkF m 19 #[.val (.ref a1), .val (.ref b2), .val (.ref x1)] [(.ref x1), (.ref b2)])) rfl (by rw [hml]; rfl) (Steps.refl _) (argsL := [(.ref x1)]) (rest := []) (lenOf pd_8 rfl) rfl (by show 2 * 0 + _ ≤ _; exact Nat.le_of_eq rfl) (hb hby d10_19) (fun _ _ => ⟨rfl, e4, (by decide : 1 + 1 ≤ _), (by decide : 3 + 10 ≤ _)⟩)
  dsimp only [Pt.U, Pt.locs, Pt.cells, Pt.slots] at X5 l5 y5 z5 st5 hQ5
  subst l5 y5 z5
  obtain ⟨b5_0, rfl, N5q, K5, sz5_0, Q5_0, Q5_1, Q5_2, Q5_3, Q5_4⟩ := hQ5
  have N5 := Fr.app N3 N5q
  have g_b5_0 : n0 ≤ b5_0 := Nat.le_trans Z3 sz5_0
  have sz_b5_0 : h0.size ≤ b5_0 := Nat.le_trans KK3.1 sz5_0
  have ne_a1_b5_0 : a1 ≠ b5_0 := Nat.ne_of_lt (Nat.lt_of_lt_of_le F_firstChild_a1_3.lt sz5_0)
  have ne_x1_b5_0 : x1 ≠ b5_0 := Nat.ne_of_lt (Nat.lt_of_lt_of_le E_x1_3.lt sz5_0)
  have ne_x2_b5_0 : x2 ≠ b5_0 := Nat.ne_of_lt (Nat.lt_of_lt_of_le E_x2_3.lt sz5_0)
  have ne_x3_b5_0 : x3 ≠ b5_0 := Nat.ne_of_lt (Nat.lt_of_lt_of_le E_x3_3.lt sz5_0)
  have ne_b2_b5_0 : b2 ≠ b5_0 := Nat.ne_of_lt (Nat.lt_of_lt_of_le Q3_0.lt sz5_0)
  have F_firstChild_a1_5 := F_firstChild_a1_3.keep K5 (ninS ne_a1_b2 nin0)
  have E_x1_5 := E_x1_3.keep K5
  have F_next_x1_5 := F_next_x1_3.keep K5 (ninS ne_x1_b2 nin0)
  have E_x2_5 := E_x2_3.keep K5
  have F_next_x2_5 := F_next_x2_3.keep K5 (ninS ne_x2_b2 nin0)
  have E_x3_5 := E_x3_3.keep K5
  have F_next_x3_5 := F_next_x3_3.keep K5 (ninS ne_x3_b2 nin0)
  have E_b2_5 := Q3_0.keep K5
  have O5 := O3.keep K5 (allS g_b2 all0)
  have Z5 := Nat.le_trans Z3 K5.1
  have KK5 : Keep h0 T5.heap [] := KK3.trans K5 (allS (Or.inr sz_b2) all0)
  clear F_firstChild_a1_3 E_x1_3 F_next_x1_3 E_x2_3 F_next_x2_3 E_x3_3 F_next_x3_3 Q3_0 O3 Z3 KK3 K5
  refine Go.trans st5 ?_
  show Go p e below _ (T5.setTop (mkF m 24 #[.val (.ref a1), .val (.ref b2), .val (.ref x1)] [(.int (1 : Int32))]))
  refine Go.step (fun t k => XS.pop X5.here hx rfl (hb hby d10_24) rfl rfl k) ?_
  show Go p e below _ (T5.setTop (mkF m 25 #[.val (.ref a1), .val (.ref b2), .val (.ref x1)] []))
  refine Go.step (fun t k => XS.aloadN X5.here hx rfl (hb hby d10_25) rfl rfl k) ?_
  show Go p e below _ (T5.setTop (mkF m 26 #[.val (.ref a1), .val (.ref b2), .val (.ref x1)] [(.ref x1)]))
  obtain ⟨T6, X6, e6, st6⟩ := getF X5 hx hZ hown (host := "") (Or.inl (hw _ (List.mem_of_getElem? (i := 96) rfl))) Via.refl rfl F_next_x1_5 (g := (mkF m 26 #[.val (.ref a1), .val (.ref b2), .val (.ref x1)] [(.ref x1)])) rfl rfl (hb hby d10_26)
  refine Go.step st6 ?_
  show Go p e below _ (T6.setTop (mkF m 29 #[.val (.ref a1), .val (.ref b2), .val (.ref x1)] [(.ref x2)]))
  refine Go.step (fun t k => XS.astoreN X6.here hx rfl (hb hby d10_29) rfl rfl (l' := #[.val (.ref a1), .val (.ref b2), .val (.ref x2)]) rfl k) ?_
  show Go p e below _ (T6.setTop (mkF m 30 #[.val (.ref a1), .val (.ref b2), .val (.ref x2)] []))
  refine Go.step (fun t k => XS.goto X6.here hx rfl (pc0 := 30) (pc' := 13) rfl (hb hby d10_30) (by decide) (by decide) k) ?_
  show Go p e below _ (T6.setTop (mkF m 13 #[.val (.ref a1), .val (.ref b2), .val (.ref x2)] []))
  refine Go.step (fun t k => XS.aloadN X6.here hx rfl (hb hby d10_13) rfl rfl k) ?_
  show Go p e below _ (T6.setTop (mkF m 14 #[.val (.ref a1), .val (.ref b2), .val (.ref x2)] [(.ref x2)]))
  refine Go.step (fun t k => XS.ifnullNo X6.here hx rfl (hb hby d10_14) rfl k) ?_
  show Go p e below _ (T6.setTop (mkF m 17 #[.val (.ref a1), .val (.ref b2), .val (.ref x2)] []))
  refine Go.step (fun t k => XS.aloadN X6.here hx rfl (hb hby d10_17) rfl rfl k) ?_
  show Go p e below _ (T6.setTop (mkF m 18 #[.val (.ref a1), .val (.ref b2), .val (.ref x2)] [(.ref b2)]))
  refine Go.step (fun t k => XS.aloadN X6.here hx rfl (hb hby d10_18) rfl rfl k) ?_
  show Go p e below _ (T6.setTop (mkF m 19 #[.val (.ref a1), .val (.ref b2), .val (.ref x2)] [(.ref x2), (.ref b2)]))
  obtain ⟨cq7, kq7, q7a, q7b, q7c⟩ := isOf hZ e6 Q5_0
  obtain ⟨_, _, ⟨T7, L7, k7, n7⟩, -, X7, ⟨Lc7, hQ7, l7, y7, z7⟩, st7⟩ := X6.interfaceBack hx (xi := (⟨"java/util/List", "add", "(Ljava/lang/Object;)Z"⟩ : MethodName)) (y := (⟨"java/util/ArrayList", "add", "(Ljava/lang/Object;)Z"⟩ : MethodName)) hown (mvT hZ (hw _ (List.mem_of_getElem? (i := 98) rfl))) (mvT hZ (hw _ (List.mem_of_getElem? (i := 99) rfl))) (mvT hZ (hw _ (List.mem_of_getElem? (i := 100) rfl))) (mvT hZ (hw _ (List.mem_of_getElem? (i := 101) rfl))) (mvT hZ (hw _ (List.mem_of_getElem? (i := 102) rfl))) (mvT hZ (hw _ (List.mem_of_getElem? (i := 103) rfl))) (mvT hZ (hw _ (List.mem_of_getElem? (i := 104) rfl))) (mvT hZ (hw _ (List.mem_of_getElem? (i := 77) rfl))) (by decide) (backOf (W := 0) (rm14_1 l Z a0 hw [] b2 x2 b5_0 (upA (fun _ => .null) 0 (.ref x1)) (1 : Int32) T5.heap n0 Z5 Q5_0 E_x2_5 Q5_2 Q5_1 Q5_4 Q5_3 g_b2 (Ne.symm ne_b2_b5_0) g_b5_0 ne_b2_b5_0) hZ (hw _ (List.mem_of_getElem? (i := 105) rfl)) (hw _ (List.mem_of_getElem? (i := 35) rfl)) (by decide) (by decide)) q7a q7b q7c (g := (mkF m 19 #[.val (.ref a1), .val (.ref b2), .val (.ref x2)] [(.ref x2), (.ref b2)])) rfl (by rw [hml]; rfl) (Steps.refl _) (argsL := [(.ref x2)]) (rest := []) (lenOf pd_8 rfl) rfl (by show 2 * 0 + _ ≤ _; exact Nat.le_of_eq rfl) (hb hby d10_19) (fun _ _ => ⟨rfl, e6, (by decide : 2 + 0 ≤ _), (by decide : 13 + 0 ≤ _)⟩)
  dsimp only [Pt.U, Pt.locs, Pt.cells, Pt.slots] at X7 l7 y7 z7 st7 hQ7
  subst l7 y7 z7
  obtain ⟨rfl, N7q, K7, Q7_0, Q7_1, Q7_2, Q7_3, Q7_4⟩ := hQ7
  have N7 := Fr.app N5 N7q
  have F_firstChild_a1_7 := F_firstChild_a1_5.keep K7 (ninS ne_a1_b2 (ninS ne_a1_b5_0 nin0))
  have E_x1_7 := E_x1_5.keep K7
  have F_next_x1_7 := F_next_x1_5.keep K7 (ninS ne_x1_b2 (ninS ne_x1_b5_0 nin0))
  have E_x2_7 := E_x2_5.keep K7
  have F_next_x2_7 := F_next_x2_5.keep K7 (ninS ne_x2_b2 (ninS ne_x2_b5_0 nin0))
  have E_x3_7 := E_x3_5.keep K7
  have F_next_x3_7 := F_next_x3_5.keep K7 (ninS ne_x3_b2 (ninS ne_x3_b5_0 nin0))
  have E_b2_7 := Q5_0.keep K7
  have O7 := O5.keep K7 (allS g_b2 (allS g_b5_0 all0))
  have Z7 := Nat.le_trans Z5 K7.1
  have KK7 : Keep h0 T7.heap [] := KK5.trans K7 (allS (Or.inr sz_b2) (allS (Or.inr sz_b5_0) all0))
  clear F_firstChild_a1_5 E_x1_5 F_next_x1_5 E_x2_5 F_next_x2_5 E_x3_5 F_next_x3_5 Q5_0 O5 Z5 KK5 K7
  refine Go.trans st7 ?_
  show Go p e below _ (T7.setTop (mkF m 24 #[.val (.ref a1), .val (.ref b2), .val (.ref x2)] [(.int (1 : Int32))]))
  refine Go.step (fun t k => XS.pop X7.here hx rfl (hb hby d10_24) rfl rfl k) ?_
  show Go p e below _ (T7.setTop (mkF m 25 #[.val (.ref a1), .val (.ref b2), .val (.ref x2)] []))
  refine Go.step (fun t k => XS.aloadN X7.here hx rfl (hb hby d10_25) rfl rfl k) ?_
  show Go p e below _ (T7.setTop (mkF m 26 #[.val (.ref a1), .val (.ref b2), .val (.ref x2)] [(.ref x2)]))
  obtain ⟨T8, X8, e8, st8⟩ := getF X7 hx hZ hown (host := "") (Or.inl (hw _ (List.mem_of_getElem? (i := 96) rfl))) Via.refl rfl F_next_x2_7 (g := (mkF m 26 #[.val (.ref a1), .val (.ref b2), .val (.ref x2)] [(.ref x2)])) rfl rfl (hb hby d10_26)
  refine Go.step st8 ?_
  show Go p e below _ (T8.setTop (mkF m 29 #[.val (.ref a1), .val (.ref b2), .val (.ref x2)] [(.ref x3)]))
  refine Go.step (fun t k => XS.astoreN X8.here hx rfl (hb hby d10_29) rfl rfl (l' := #[.val (.ref a1), .val (.ref b2), .val (.ref x3)]) rfl k) ?_
  show Go p e below _ (T8.setTop (mkF m 30 #[.val (.ref a1), .val (.ref b2), .val (.ref x3)] []))
  refine Go.step (fun t k => XS.goto X8.here hx rfl (pc0 := 30) (pc' := 13) rfl (hb hby d10_30) (by decide) (by decide) k) ?_
  show Go p e below _ (T8.setTop (mkF m 13 #[.val (.ref a1), .val (.ref b2), .val (.ref x3)] []))
  refine Go.step (fun t k => XS.aloadN X8.here hx rfl (hb hby d10_13) rfl rfl k) ?_
  show Go p e below _ (T8.setTop (mkF m 14 #[.val (.ref a1), .val (.ref b2), .val (.ref x3)] [(.ref x3)]))
  refine Go.step (fun t k => XS.ifnullNo X8.here hx rfl (hb hby d10_14) rfl k) ?_
  show Go p e below _ (T8.setTop (mkF m 17 #[.val (.ref a1), .val (.ref b2), .val (.ref x3)] []))
  refine Go.step (fun t k => XS.aloadN X8.here hx rfl (hb hby d10_17) rfl rfl k) ?_
  show Go p e below _ (T8.setTop (mkF m 18 #[.val (.ref a1), .val (.ref b2), .val (.ref x3)] [(.ref b2)]))
  refine Go.step (fun t k => XS.aloadN X8.here hx rfl (hb hby d10_18) rfl rfl k) ?_
  show Go p e below _ (T8.setTop (mkF m 19 #[.val (.ref a1), .val (.ref b2), .val (.ref x3)] [(.ref x3), (.ref b2)]))
  obtain ⟨cq9, kq9, q9a, q9b, q9c⟩ := isOf hZ e8 Q7_0
  obtain ⟨_, _, ⟨T9, L9, k9, n9⟩, -, X9, ⟨Lc9, hQ9, l9, y9, z9⟩, st9⟩ := X8.interfaceBack hx (xi := (⟨"java/util/List", "add", "(Ljava/lang/Object;)Z"⟩ : MethodName)) (y := (⟨"java/util/ArrayList", "add", "(Ljava/lang/Object;)Z"⟩ : MethodName)) hown (mvT hZ (hw _ (List.mem_of_getElem? (i := 98) rfl))) (mvT hZ (hw _ (List.mem_of_getElem? (i := 99) rfl))) (mvT hZ (hw _ (List.mem_of_getElem? (i := 100) rfl))) (mvT hZ (hw _ (List.mem_of_getElem? (i := 101) rfl))) (mvT hZ (hw _ (List.mem_of_getElem? (i := 102) rfl))) (mvT hZ (hw _ (List.mem_of_getElem? (i := 103) rfl))) (mvT hZ (hw _ (List.mem_of_getElem? (i := 104) rfl))) (mvT hZ (hw _ (List.mem_of_getElem? (i := 77) rfl))) (by decide) (backOf (W := 0) (rm14_2 l Z a0 hw [] b2 x3 b5_0 (upA (upA (fun _ => .null) 0 (.ref x1)) 1 (.ref x2)) (2 : Int32) T7.heap n0 Z7 Q7_0 E_x3_7 Q7_1 Q7_2 Q7_4 Q7_3 g_b2 (Ne.symm ne_b2_b5_0) g_b5_0 ne_b2_b5_0) hZ (hw _ (List.mem_of_getElem? (i := 105) rfl)) (hw _ (List.mem_of_getElem? (i := 35) rfl)) (by decide) (by decide)) q9a q9b q9c (g := (mkF m 19 #[.val (.ref a1), .val (.ref b2), .val (.ref x3)] [(.ref x3), (.ref b2)])) rfl (by rw [hml]; rfl) (Steps.refl _) (argsL := [(.ref x3)]) (rest := []) (lenOf pd_8 rfl) rfl (by show 2 * 0 + _ ≤ _; exact Nat.le_of_eq rfl) (hb hby d10_19) (fun _ _ => ⟨rfl, e8, (by decide : 2 + 0 ≤ _), (by decide : 13 + 0 ≤ _)⟩)
  dsimp only [Pt.U, Pt.locs, Pt.cells, Pt.slots] at X9 l9 y9 z9 st9 hQ9
  subst l9 y9 z9
  obtain ⟨rfl, N9q, K9, Q9_0, Q9_1, Q9_2, Q9_3, Q9_4⟩ := hQ9
  have N9 := Fr.app N7 N9q
  have F_firstChild_a1_9 := F_firstChild_a1_7.keep K9 (ninS ne_a1_b2 (ninS ne_a1_b5_0 nin0))
  have E_x1_9 := E_x1_7.keep K9
  have F_next_x1_9 := F_next_x1_7.keep K9 (ninS ne_x1_b2 (ninS ne_x1_b5_0 nin0))
  have E_x2_9 := E_x2_7.keep K9
  have F_next_x2_9 := F_next_x2_7.keep K9 (ninS ne_x2_b2 (ninS ne_x2_b5_0 nin0))
  have E_x3_9 := E_x3_7.keep K9
  have F_next_x3_9 := F_next_x3_7.keep K9 (ninS ne_x3_b2 (ninS ne_x3_b5_0 nin0))
  have E_b2_9 := Q7_0.keep K9
  have O9 := O7.keep K9 (allS g_b2 (allS g_b5_0 all0))
  have Z9 := Nat.le_trans Z7 K9.1
  have KK9 : Keep h0 T9.heap [] := KK7.trans K9 (allS (Or.inr sz_b2) (allS (Or.inr sz_b5_0) all0))
  clear F_firstChild_a1_7 E_x1_7 F_next_x1_7 E_x2_7 F_next_x2_7 E_x3_7 F_next_x3_7 Q7_0 O7 Z7 KK7 K9
  refine Go.trans st9 ?_
  show Go p e below _ (T9.setTop (mkF m 24 #[.val (.ref a1), .val (.ref b2), .val (.ref x3)] [(.int (1 : Int32))]))
  refine Go.step (fun t k => XS.pop X9.here hx rfl (hb hby d10_24) rfl rfl k) ?_
  show Go p e below _ (T9.setTop (mkF m 25 #[.val (.ref a1), .val (.ref b2), .val (.ref x3)] []))
  refine Go.step (fun t k => XS.aloadN X9.here hx rfl (hb hby d10_25) rfl rfl k) ?_
  show Go p e below _ (T9.setTop (mkF m 26 #[.val (.ref a1), .val (.ref b2), .val (.ref x3)] [(.ref x3)]))
  obtain ⟨T10, X10, e10, st10⟩ := getF X9 hx hZ hown (host := "") (Or.inl (hw _ (List.mem_of_getElem? (i := 96) rfl))) Via.refl rfl F_next_x3_9 (g := (mkF m 26 #[.val (.ref a1), .val (.ref b2), .val (.ref x3)] [(.ref x3)])) rfl rfl (hb hby d10_26)
  refine Go.step st10 ?_
  show Go p e below _ (T10.setTop (mkF m 29 #[.val (.ref a1), .val (.ref b2), .val (.ref x3)] [.null]))
  refine Go.step (fun t k => XS.astoreN X10.here hx rfl (hb hby d10_29) rfl rfl (l' := #[.val (.ref a1), .val (.ref b2), .val .null]) rfl k) ?_
  show Go p e below _ (T10.setTop (mkF m 30 #[.val (.ref a1), .val (.ref b2), .val .null] []))
  refine Go.step (fun t k => XS.goto X10.here hx rfl (pc0 := 30) (pc' := 13) rfl (hb hby d10_30) (by decide) (by decide) k) ?_
  show Go p e below _ (T10.setTop (mkF m 13 #[.val (.ref a1), .val (.ref b2), .val .null] []))
  refine Go.step (fun t k => XS.aloadN X10.here hx rfl (hb hby d10_13) rfl rfl k) ?_
  show Go p e below _ (T10.setTop (mkF m 14 #[.val (.ref a1), .val (.ref b2), .val .null] [.null]))
  refine Go.step (fun t k => XS.ifnullYes X10.here hx rfl (pc0 := 14) (pc' := 33) rfl (hb hby d10_14) rfl (by decide) (by decide) k) ?_
  show Go p e below _ (T10.setTop (mkF m 33 #[.val (.ref a1), .val (.ref b2), .val .null] []))
  refine Go.step (fun t k => XS.aloadN X10.here hx rfl (hb hby d10_33) rfl rfl k) ?_
  show Go p e below _ (T10.setTop (mkF m 34 #[.val (.ref a1), .val (.ref b2), .val .null] [(.ref b2)]))
  refine retGR X10 hx Bd.notSynchronized Bd.returns rfl rfl (hb hby d10_34) ?_ (by decide) (by decide)
  show Q10_3 Z a1 x1 x2 x3 oD h0 n0 _ T10.heap _
  rw [e10]
  exact ⟨b2, b5_0, rfl, N9, KK9, sz_b2, sz_b5_0, Q9_0, Q9_1, Q9_2, Q9_3, Q9_4⟩
theorem d11_0 : decode jdk_38_method_8_code 0 = .ok (.aload_n 0, 1) := by decide +kernel
theorem d11_1 : decode jdk_38_method_8_code 1 = .ok (.getfield 48, 3) := by decide +kernel
theorem d11_4 : decode jdk_38_method_8_code 4 = .ok (.ireturn, 1) := by decide +kernel
theorem ef_11 (m : MethodId) (a1 : Addr) : entryFrame m #[(.ref a1)] 1 = mkF m 0 #[.val (.ref a1)] [] := by first | (simp [entryFrame, mkF, argsToLocals, Value.category]; done) | rfl
def f11 (w_size_a1 : Int32) : Int32 := w_size_a1
set_option maxRecDepth 65536 in
set_option maxHeartbeats 40000000 in
theorem rm11 (l : Launch) (Z : State) (a0 : Array Value) (hw : ∀ d ∈ tables_1, d.before a0 Z = true) (ws : List Jvm.Cond) (a1 : Addr) (w_size_a1 : Int32) (h0 : Heap) (n0 : Nat) (Z0 : n0 ≤ h0.size) (F_size_a1 : Fld Z h0 a1 "java/util/ArrayList" "size" "I" (.int w_size_a1)) :
    MetFree l (⟨"java/util/ArrayList", "size", "()I"⟩ : MethodName) (head1 (Jvm.Cond.code (⟨"java/util/ArrayList", "size", "()I"⟩ : MethodName) jdk_38_method_8_code 1 (some .int) :: ws) ({ frames := 0, cells := 0, slots := 0, locals := 0 } : Room)) (fun a U => a = #[(.ref a1)] ∧ Z.Warmed39 U.vm ∧ U.heap = h0) (fun _ _ _ _ _ => True) (fun _ U o U' => ∃ v L, o = .returned v ∧ QP (.int (f11 w_size_a1)) h0 n0 v U'.heap L ∧ FrameEnd U o U' L ({ frames := 0, cells := 0, slots := 0, locals := 0 } : Room).cells ({ frames := 0, cells := 0, slots := 0, locals := 0 } : Room).slots) := by
  refine MetFree.of_bodySF (plainFor_of_name pn_4) hisR ?_
  intro p e s m args below meth c s₁ Bd hml0 hP hK
  obtain ⟨rfl, hZ, hh⟩ := hP
  have hx := Bd.exec
  have hby := Bd.bytes
  have hml : c.maxLocals = 1 := hml0
  have hown : s.vm.findClass "java/util/ArrayList" = some m.cls := findClass_of_methodNamed Bd.named
  have hnm := (name_of_methodNamed Bd.named Bd.method).1
  have X0 : Stand p l e ({ frames := 0, cells := 0, slots := 0, locals := 0 } : Room) s m #[(.ref a1)] below meth c s₁ [] 0 0 := Stand.of_body Bd
  have e0 : s₁.heap = h0 := by rw [← hh, Bd.state]; rfl
  have N0 := Fr.nil n0
  refine Go.done (Go.step (fun t k => castTop (ef_11 m a1) k) ?_)
  have KK0 : Keep h0 h0 [] := Keep.refl _ _
  show Go p e below _ (s₁.setTop (mkF m 0 #[.val (.ref a1)] []))
  refine Go.step (fun t k => XS.aloadN X0.here hx rfl (hb hby d11_0) rfl rfl k) ?_
  show Go p e below _ (s₁.setTop (mkF m 1 #[.val (.ref a1)] [(.ref a1)]))
  obtain ⟨T2, X2, e2, st2⟩ := getF X0 hx hZ hown (host := "") (Or.inl (hw _ (List.mem_of_getElem? (i := 79) rfl))) Via.refl e0 F_size_a1 (g := (mkF m 1 #[.val (.ref a1)] [(.ref a1)])) rfl rfl (hb hby d11_1)
  refine Go.step st2 ?_
  show Go p e below _ (T2.setTop (mkF m 4 #[.val (.ref a1)] [(.int w_size_a1)]))
  exact retGI X2 hx Bd.notSynchronized Bd.returns (hb hby d11_4) ⟨by first | rfl | (simp only [f11]; done) | (simp [f11]; done), N0, e2⟩ (by decide) (by decide)
theorem d21_0 : decode jdk_41_method_11_code 0 = .ok (.iload_n 0, 1) := by decide +kernel
theorem d21_1 : decode jdk_41_method_11_code 1 = .ok (.ifCond .lt 8, 3) := by decide +kernel
theorem d21_4 : decode jdk_41_method_11_code 4 = .ok (.iload_n 0, 1) := by decide +kernel
theorem d21_5 : decode jdk_41_method_11_code 5 = .ok (.iload_n 1, 1) := by decide +kernel
theorem d21_6 : decode jdk_41_method_11_code 6 = .ok (.if_icmp .lt 10, 3) := by decide +kernel
theorem d21_16 : decode jdk_41_method_11_code 16 = .ok (.iload_n 0, 1) := by decide +kernel
theorem d21_17 : decode jdk_41_method_11_code 17 = .ok (.ireturn, 1) := by decide +kernel
theorem ef_21 (m : MethodId) (p1 : Int32) (p2 : Int32) : entryFrame m #[(.int p1), (.int p2), .null] 3 = mkF m 0 #[.val (.int p1), .val (.int p2), .val .null] [] := by first | (simp [entryFrame, mkF, argsToLocals, Value.category]; done) | rfl
theorem pn_6 : plainName "jdk/internal/util/Preconditions" = true := by first | (simp [plainName, overriddenIn]; done) | decide +kernel
def f21 (p1 : Int32) (p2 : Int32) : Int32 := p1
set_option maxRecDepth 65536 in
set_option maxHeartbeats 40000000 in
theorem rm21 (l : Launch) (Z : State) (a0 : Array Value) (hw : ∀ d ∈ tables_1, d.before a0 Z = true) (ws : List Jvm.Cond) (p1 : Int32) (p2 : Int32) (h0 : Heap) (n0 : Nat) (Z0 : n0 ≤ h0.size) (hp1 : ¬ (p1 < (0 : Int32))) (hp6 : p1 < p2) :
    MetFree l (⟨"jdk/internal/util/Preconditions", "checkIndex", "(IILjava/util/function/BiFunction;)I"⟩ : MethodName) (head1 (Jvm.Cond.code (⟨"jdk/internal/util/Preconditions", "checkIndex", "(IILjava/util/function/BiFunction;)I"⟩ : MethodName) jdk_41_method_11_code 3 (some .int) :: ws) ({ frames := 0, cells := 0, slots := 0, locals := 0 } : Room)) (fun a U => a = #[(.int p1), (.int p2), .null] ∧ Z.Warmed39 U.vm ∧ U.heap = h0) (fun _ _ _ _ _ => True) (fun _ U o U' => ∃ v L, o = .returned v ∧ QP (.int (f21 p1 p2)) h0 n0 v U'.heap L ∧ FrameEnd U o U' L ({ frames := 0, cells := 0, slots := 0, locals := 0 } : Room).cells ({ frames := 0, cells := 0, slots := 0, locals := 0 } : Room).slots) := by
  refine MetFree.of_bodySF (plainFor_of_name pn_6) hisR ?_
  intro p e s m args below meth c s₁ Bd hml0 hP hK
  obtain ⟨rfl, hZ, hh⟩ := hP
  have hx := Bd.exec
  have hby := Bd.bytes
  have hml : c.maxLocals = 3 := hml0
  have hown : s.vm.findClass "jdk/internal/util/Preconditions" = some m.cls := findClass_of_methodNamed Bd.named
  have hnm := (name_of_methodNamed Bd.named Bd.method).1
  have X0 : Stand p l e ({ frames := 0, cells := 0, slots := 0, locals := 0 } : Room) s m #[(.int p1), (.int p2), .null] below meth c s₁ [] 0 0 := Stand.of_body Bd
  have e0 : s₁.heap = h0 := by rw [← hh, Bd.state]; rfl
  have N0 := Fr.nil n0
  refine Go.done (Go.step (fun t k => castTop (ef_21 m p1 p2) k) ?_)
  have KK0 : Keep h0 h0 [] := Keep.refl _ _
  show Go p e below _ (s₁.setTop (mkF m 0 #[.val (.int p1), .val (.int p2), .val .null] []))
  refine Go.step (fun t k => XS.iloadN X0.here hx rfl (hb hby d21_0) rfl k) ?_
  show Go p e below _ (s₁.setTop (mkF m 1 #[.val (.int p1), .val (.int p2), .val .null] [(.int p1)]))
  refine Go.step (fun t k => XS.ifNo X0.here hx rfl (hb hby d21_1) rfl ((if0 _ _).trans (flt hp1).1) k) ?_
  show Go p e below _ (s₁.setTop (mkF m 4 #[.val (.int p1), .val (.int p2), .val .null] []))
  refine Go.step (fun t k => XS.iloadN X0.here hx rfl (hb hby d21_4) rfl k) ?_
  show Go p e below _ (s₁.setTop (mkF m 5 #[.val (.int p1), .val (.int p2), .val .null] [(.int p1)]))
  refine Go.step (fun t k => XS.iloadN X0.here hx rfl (hb hby d21_5) rfl k) ?_
  show Go p e below _ (s₁.setTop (mkF m 6 #[.val (.int p1), .val (.int p2), .val .null] [(.int p2), (.int p1)]))
  refine Go.step (fun t k => XS.icmpYes X0.here hx rfl (pc0 := 6) (pc' := 16) rfl (hb hby d21_6) rfl (tlt hp6).1 (by decide) (by decide) k) ?_
  show Go p e below _ (s₁.setTop (mkF m 16 #[.val (.int p1), .val (.int p2), .val .null] []))
  refine Go.step (fun t k => XS.iloadN X0.here hx rfl (hb hby d21_16) rfl k) ?_
  show Go p e below _ (s₁.setTop (mkF m 17 #[.val (.int p1), .val (.int p2), .val .null] [(.int p1)]))
  exact retGI X0 hx Bd.notSynchronized Bd.returns (hb hby d21_17) ⟨by first | rfl | (simp only [f21]; done) | (simp [f21]; done), N0, e0⟩ (by decide) (by decide)
theorem d20_0 : decode jdk_31_method_17_code 0 = .ok (.iload_n 0, 1) := by decide +kernel
theorem d20_1 : decode jdk_31_method_17_code 1 = .ok (.iload_n 1, 1) := by decide +kernel
theorem d20_2 : decode jdk_31_method_17_code 2 = .ok (.aconst_null, 1) := by decide +kernel
theorem d20_3 : decode jdk_31_method_17_code 3 = .ok (.invokestatic 105, 3) := by decide +kernel
theorem pd_9 : parseMethodDescriptor "(IILjava/util/function/BiFunction;)I" = some ⟨[.int, .int, (.object "java/util/function/BiFunction")], some .int⟩ := by decide +kernel
theorem d20_6 : decode jdk_31_method_17_code 6 = .ok (.ireturn, 1) := by decide +kernel
theorem ef_20 (m : MethodId) (p1 : Int32) (p2 : Int32) : entryFrame m #[(.int p1), (.int p2)] 2 = mkF m 0 #[.val (.int p1), .val (.int p2)] [] := by first | (simp [entryFrame, mkF, argsToLocals, Value.category]; done) | rfl
theorem pn_7 : plainName "java/util/Objects" = true := by first | (simp [plainName, overriddenIn]; done) | decide +kernel
def f20 (p1 : Int32) (p2 : Int32) : Int32 := (f21 p1 p2)
set_option maxRecDepth 65536 in
set_option maxHeartbeats 40000000 in
theorem rm20 (l : Launch) (Z : State) (a0 : Array Value) (hw : ∀ d ∈ tables_1, d.before a0 Z = true) (ws : List Jvm.Cond) (p1 : Int32) (p2 : Int32) (h0 : Heap) (n0 : Nat) (Z0 : n0 ≤ h0.size) (hp3_hp1 : ¬ (p1 < (0 : Int32))) (hp3_hp6 : p1 < p2) :
    MetFree l (⟨"java/util/Objects", "checkIndex", "(II)I"⟩ : MethodName) (head1 (Jvm.Cond.code (⟨"java/util/Objects", "checkIndex", "(II)I"⟩ : MethodName) jdk_31_method_17_code 2 (some .int) :: ws) ({ frames := 1, cells := 0, slots := 0, locals := 14 } : Room)) (fun a U => a = #[(.int p1), (.int p2)] ∧ Z.Warmed39 U.vm ∧ U.heap = h0) (fun _ _ _ _ _ => True) (fun _ U o U' => ∃ v L, o = .returned v ∧ QP (.int (f20 p1 p2)) h0 n0 v U'.heap L ∧ FrameEnd U o U' L ({ frames := 1, cells := 0, slots := 0, locals := 14 } : Room).cells ({ frames := 1, cells := 0, slots := 0, locals := 14 } : Room).slots) := by
  refine MetFree.of_bodySF (plainFor_of_name pn_7) hisR ?_
  intro p e s m args below meth c s₁ Bd hml0 hP hK
  obtain ⟨rfl, hZ, hh⟩ := hP
  have hx := Bd.exec
  have hby := Bd.bytes
  have hml : c.maxLocals = 2 := hml0
  have hown : s.vm.findClass "java/util/Objects" = some m.cls := findClass_of_methodNamed Bd.named
  have hnm := (name_of_methodNamed Bd.named Bd.method).1
  have X0 : Stand p l e ({ frames := 1, cells := 0, slots := 0, locals := 14 } : Room) s m #[(.int p1), (.int p2)] below meth c s₁ [] 0 0 := Stand.of_body Bd
  have e0 : s₁.heap = h0 := by rw [← hh, Bd.state]; rfl
  have N0 := Fr.nil n0
  refine Go.done (Go.step (fun t k => castTop (ef_20 m p1 p2) k) ?_)
  have KK0 : Keep h0 h0 [] := Keep.refl _ _
  show Go p e below _ (s₁.setTop (mkF m 0 #[.val (.int p1), .val (.int p2)] []))
  refine Go.step (fun t k => XS.iloadN X0.here hx rfl (hb hby d20_0) rfl k) ?_
  show Go p e below _ (s₁.setTop (mkF m 1 #[.val (.int p1), .val (.int p2)] [(.int p1)]))
  refine Go.step (fun t k => XS.iloadN X0.here hx rfl (hb hby d20_1) rfl k) ?_
  show Go p e below _ (s₁.setTop (mkF m 2 #[.val (.int p1), .val (.int p2)] [(.int p2), (.int p1)]))
  refine Go.step (fun t k => XS.aconstNull X0.here hx rfl (hb hby d20_2)  k) ?_
  show Go p e below _ (s₁.setTop (mkF m 3 #[.val (.int p1), .val (.int p2)] [.null, (.int p2), (.int p1)]))
  obtain ⟨_, _, ⟨T3, L3, k3, n3⟩, -, X3, ⟨Lc3, hQ3, l3, y3, z3⟩, st3⟩ := Jvm.LawKit.callS X0 hx (y := (⟨"jdk/internal/util/Preconditions", "checkIndex", "(IILjava/util/function/BiFunction;)I"⟩ : MethodName)) hown (mvT hZ (hw _ (List.mem_of_getElem? (i := 142) rfl))) (mvT hZ (hw _ (List.mem_of_getElem? (i := 143) rfl))) (mvT hZ (hw _ (List.mem_of_getElem? (i := 144) rfl))) (mvT hZ (hw _ (List.mem_of_getElem? (i := 145) rfl))) (by decide) (backOf (W := 0) (rm21 l Z a0 hw [] p1 p2 h0 n0 Z0 hp3_hp1 hp3_hp6) hZ (hw _ (List.mem_of_getElem? (i := 145) rfl)) (hw _ (List.mem_of_getElem? (i := 144) rfl)) (by decide) (by decide)) (g := (mkF m 3 #[.val (.int p1), .val (.int p2)] [.null, (.int p2), (.int p1)])) rfl (by rw [hml]; rfl) (argsL := [(.int p1), (.int p2), .null]) (rest := []) (lenOf pd_9 rfl) rfl (by show 2 * 0 + _ ≤ _; exact Nat.le_of_eq rfl) (hb hby d20_3) (fun _ _ => ⟨rfl, e0, (by decide : 0 + 0 ≤ _), (by decide : 0 + 0 ≤ _)⟩)
  dsimp only [Pt.U, Pt.locs, Pt.cells, Pt.slots] at X3 l3 y3 z3 st3 hQ3
  subst l3 y3 z3
  obtain ⟨rfl, N3q, e3⟩ := hQ3
  have N3 := Fr.app N0 N3q
  refine Go.step st3 ?_
  show Go p e below _ (T3.setTop (mkF m 6 #[.val (.int p1), .val (.int p2)] [(.int (f21 p1 p2))]))
  exact retGI X3 hx Bd.notSynchronized Bd.returns (hb hby d20_6) ⟨by first | rfl | (simp only [f20]; done) | (simp [f20]; done), N3, e3⟩ (by decide) (by decide)
theorem d22_0 : decode jdk_38_method_18_code 0 = .ok (.aload_n 0, 1) := by decide +kernel
theorem d22_1 : decode jdk_38_method_18_code 1 = .ok (.getfield 9, 3) := by decide +kernel
theorem d22_4 : decode jdk_38_method_18_code 4 = .ok (.iload_n 1, 1) := by decide +kernel
theorem d22_5 : decode jdk_38_method_18_code 5 = .ok (.aaload, 1) := by decide +kernel
theorem d22_6 : decode jdk_38_method_18_code 6 = .ok (.areturn, 1) := by decide +kernel
theorem ef_22_1_0 (m : MethodId) (a1 : Addr) : entryFrame m #[(.ref a1), (.int (0 : Int32))] 2 = mkF m 0 #[.val (.ref a1), .val (.int (0 : Int32))] [] := by first | (simp [entryFrame, mkF, argsToLocals, Value.category]; done) | rfl
set_option maxRecDepth 65536 in
set_option maxHeartbeats 40000000 in
theorem rm22_1_0 (l : Launch) (Z : State) (a0 : Array Value) (hw : ∀ d ∈ tables_1, d.before a0 Z = true) (ws : List Jvm.Cond) (a1 : Addr) (o_el : Addr) (y0 : Addr) (h0 : Heap) (n0 : Nat) (Z0 : n0 ≤ h0.size) (F_elementData_a1 : Fld Z h0 a1 "java/util/ArrayList" "elementData" "[Ljava/lang/Object;" (.ref o_el)) (A_o_el : RAry Z h0 o_el (.object "java/lang/Object") "java/lang/Object" 10 (upA (fun _ => .null) 0 (.ref y0))) :
    MetFree l (⟨"java/util/ArrayList", "elementData", "(I)Ljava/lang/Object;"⟩ : MethodName) (head1 (Jvm.Cond.code (⟨"java/util/ArrayList", "elementData", "(I)Ljava/lang/Object;"⟩ : MethodName) jdk_38_method_18_code 2 (some (.object "java/lang/Object")) :: ws) ({ frames := 0, cells := 0, slots := 0, locals := 0 } : Room)) (fun a U => a = #[(.ref a1), (.int (0 : Int32))] ∧ Z.Warmed39 U.vm ∧ U.heap = h0) (fun _ _ _ _ _ => True) (fun _ U o U' => ∃ v L, o = .returned v ∧ QP (.ref y0) h0 n0 v U'.heap L ∧ FrameEnd U o U' L ({ frames := 0, cells := 0, slots := 0, locals := 0 } : Room).cells ({ frames := 0, cells := 0, slots := 0, locals := 0 } : Room).slots) := by
  refine MetFree.of_bodySF (plainFor_of_name pn_4) hisR ?_
  intro p e s m args below meth c s₁ Bd hml0 hP hK
  obtain ⟨rfl, hZ, hh⟩ := hP
  have hx := Bd.exec
  have hby := Bd.bytes
  have hml : c.maxLocals = 2 := hml0
  have hown : s.vm.findClass "java/util/ArrayList" = some m.cls := findClass_of_methodNamed Bd.named
  have hnm := (name_of_methodNamed Bd.named Bd.method).1
  have X0 : Stand p l e ({ frames := 0, cells := 0, slots := 0, locals := 0 } : Room) s m #[(.ref a1), (.int (0 : Int32))] below meth c s₁ [] 0 0 := Stand.of_body Bd
  have e0 : s₁.heap = h0 := by rw [← hh, Bd.state]; rfl
  have N0 := Fr.nil n0
  refine Go.done (Go.step (fun t k => castTop (ef_22_1_0 m a1) k) ?_)
  have KK0 : Keep h0 h0 [] := Keep.refl _ _
  show Go p e below _ (s₁.setTop (mkF m 0 #[.val (.ref a1), .val (.int (0 : Int32))] []))
  refine Go.step (fun t k => XS.aloadN X0.here hx rfl (hb hby d22_0) rfl rfl k) ?_
  show Go p e below _ (s₁.setTop (mkF m 1 #[.val (.ref a1), .val (.int (0 : Int32))] [(.ref a1)]))
  obtain ⟨T3, X3, e3, st3⟩ := getF X0 hx hZ hown (host := "") (Or.inl (hw _ (List.mem_of_getElem? (i := 55) rfl))) Via.refl e0 F_elementData_a1 (g := (mkF m 1 #[.val (.ref a1), .val (.int (0 : Int32))] [(.ref a1)])) rfl rfl (hb hby d22_1)
  refine Go.step st3 ?_
  show Go p e below _ (T3.setTop (mkF m 4 #[.val (.ref a1), .val (.int (0 : Int32))] [(.ref o_el)]))
  refine Go.step (fun t k => XS.iloadN X3.here hx rfl (hb hby d22_4) rfl k) ?_
  show Go p e below _ (T3.setTop (mkF m 5 #[.val (.ref a1), .val (.int (0 : Int32))] [(.int (0 : Int32)), (.ref o_el)]))
  refine Go.step (ldR X3 hx hZ e3 A_o_el.ary rfl (j := (0 : Int32)) (by decide) (by decide) (g := (mkF m 5 #[.val (.ref a1), .val (.int (0 : Int32))] [(.int (0 : Int32)), (.ref o_el)])) rfl rfl (hb hby d22_5)) ?_
  show Go p e below _ (T3.setTop (mkF m 6 #[.val (.ref a1), .val (.int (0 : Int32))] [(.ref y0)]))
  exact retGR X3 hx Bd.notSynchronized Bd.returns rfl rfl (hb hby d22_6) ⟨rfl, N0, e3⟩ (by decide) (by decide)
theorem d19_0 : decode jdk_38_method_20_code 0 = .ok (.iload_n 1, 1) := by decide +kernel
theorem d19_1 : decode jdk_38_method_20_code 1 = .ok (.aload_n 0, 1) := by decide +kernel
theorem d19_2 : decode jdk_38_method_20_code 2 = .ok (.getfield 48, 3) := by decide +kernel
theorem d19_5 : decode jdk_38_method_20_code 5 = .ok (.invokestatic 118, 3) := by decide +kernel
theorem d19_8 : decode jdk_38_method_20_code 8 = .ok (.pop, 1) := by decide +kernel
theorem d19_9 : decode jdk_38_method_20_code 9 = .ok (.aload_n 0, 1) := by decide +kernel
theorem d19_10 : decode jdk_38_method_20_code 10 = .ok (.iload_n 1, 1) := by decide +kernel
theorem d19_11 : decode jdk_38_method_20_code 11 = .ok (.invokevirtual 123, 3) := by decide +kernel
theorem pd_10 : parseMethodDescriptor "(I)Ljava/lang/Object;" = some ⟨[.int], some (.object "java/lang/Object")⟩ := by decide +kernel
theorem d19_14 : decode jdk_38_method_20_code 14 = .ok (.areturn, 1) := by decide +kernel
theorem ef_19_1_0 (m : MethodId) (a1 : Addr) : entryFrame m #[(.ref a1), (.int (0 : Int32))] 2 = mkF m 0 #[.val (.ref a1), .val (.int (0 : Int32))] [] := by first | (simp [entryFrame, mkF, argsToLocals, Value.category]; done) | rfl
set_option maxRecDepth 65536 in
set_option maxHeartbeats 40000000 in
theorem rm19_1_0 (l : Launch) (Z : State) (a0 : Array Value) (hw : ∀ d ∈ tables_1, d.before a0 Z = true) (ws : List Jvm.Cond) (a1 : Addr) (o_el : Addr) (y0 : Addr) (h0 : Heap) (n0 : Nat) (Z0 : n0 ≤ h0.size) (F_elementData_a1 : Fld Z h0 a1 "java/util/ArrayList" "elementData" "[Ljava/lang/Object;" (.ref o_el)) (A_o_el : RAry Z h0 o_el (.object "java/lang/Object") "java/lang/Object" 10 (upA (fun _ => .null) 0 (.ref y0))) (E_a1 : Exa Z h0 a1 "java/util/ArrayList") (F_size_a1 : Fld Z h0 a1 "java/util/ArrayList" "size" "I" (.int (1 : Int32))) :
    MetFree l (⟨"java/util/ArrayList", "get", "(I)Ljava/lang/Object;"⟩ : MethodName) (head1 (Jvm.Cond.code (⟨"java/util/ArrayList", "get", "(I)Ljava/lang/Object;"⟩ : MethodName) jdk_38_method_20_code 2 (some (.object "java/lang/Object")) :: ws) ({ frames := 2, cells := 0, slots := 0, locals := 27 } : Room)) (fun a U => a = #[(.ref a1), (.int (0 : Int32))] ∧ Z.Warmed39 U.vm ∧ U.heap = h0) (fun _ _ _ _ _ => True) (fun _ U o U' => ∃ v L, o = .returned v ∧ QP (.ref y0) h0 n0 v U'.heap L ∧ FrameEnd U o U' L ({ frames := 2, cells := 0, slots := 0, locals := 27 } : Room).cells ({ frames := 2, cells := 0, slots := 0, locals := 27 } : Room).slots) := by
  refine MetFree.of_bodySF (plainFor_of_name pn_4) hisR ?_
  intro p e s m args below meth c s₁ Bd hml0 hP hK
  obtain ⟨rfl, hZ, hh⟩ := hP
  have hx := Bd.exec
  have hby := Bd.bytes
  have hml : c.maxLocals = 2 := hml0
  have hown : s.vm.findClass "java/util/ArrayList" = some m.cls := findClass_of_methodNamed Bd.named
  have hnm := (name_of_methodNamed Bd.named Bd.method).1
  have X0 : Stand p l e ({ frames := 2, cells := 0, slots := 0, locals := 27 } : Room) s m #[(.ref a1), (.int (0 : Int32))] below meth c s₁ [] 0 0 := Stand.of_body Bd
  have e0 : s₁.heap = h0 := by rw [← hh, Bd.state]; rfl
  have N0 := Fr.nil n0
  refine Go.done (Go.step (fun t k => castTop (ef_19_1_0 m a1) k) ?_)
  have KK0 : Keep h0 h0 [] := Keep.refl _ _
  show Go p e below _ (s₁.setTop (mkF m 0 #[.val (.ref a1), .val (.int (0 : Int32))] []))
  refine Go.step (fun t k => XS.iloadN X0.here hx rfl (hb hby d19_0) rfl k) ?_
  show Go p e below _ (s₁.setTop (mkF m 1 #[.val (.ref a1), .val (.int (0 : Int32))] [(.int (0 : Int32))]))
  refine Go.step (fun t k => XS.aloadN X0.here hx rfl (hb hby d19_1) rfl rfl k) ?_
  show Go p e below _ (s₁.setTop (mkF m 2 #[.val (.ref a1), .val (.int (0 : Int32))] [(.ref a1), (.int (0 : Int32))]))
  obtain ⟨T3, X3, e3, st3⟩ := getF X0 hx hZ hown (host := "") (Or.inl (hw _ (List.mem_of_getElem? (i := 79) rfl))) Via.refl e0 F_size_a1 (g := (mkF m 2 #[.val (.ref a1), .val (.int (0 : Int32))] [(.ref a1), (.int (0 : Int32))])) rfl rfl (hb hby d19_2)
  refine Go.step st3 ?_
  show Go p e below _ (T3.setTop (mkF m 5 #[.val (.ref a1), .val (.int (0 : Int32))] [(.int (1 : Int32)), (.int (0 : Int32))]))
  obtain ⟨_, _, ⟨T4, L4, k4, n4⟩, -, X4, ⟨Lc4, hQ4, l4, y4, z4⟩, st4⟩ := Jvm.LawKit.callS X3 hx (y := (⟨"java/util/Objects", "checkIndex", "(II)I"⟩ : MethodName)) hown (mvT hZ (hw _ (List.mem_of_getElem? (i := 138) rfl))) (mvT hZ (hw _ (List.mem_of_getElem? (i := 139) rfl))) (mvT hZ (hw _ (List.mem_of_getElem? (i := 140) rfl))) (mvT hZ (hw _ (List.mem_of_getElem? (i := 141) rfl))) (by decide) (backOf (W := 0) (rm20 l Z a0 hw [] (0 : Int32) (1 : Int32) h0 n0 Z0 (by decide : ¬ ((0 : Int32) < (0 : Int32))) (by decide : (0 : Int32) < (1 : Int32))) hZ (hw _ (List.mem_of_getElem? (i := 141) rfl)) (hw _ (List.mem_of_getElem? (i := 140) rfl)) (by decide) (by decide)) (g := (mkF m 5 #[.val (.ref a1), .val (.int (0 : Int32))] [(.int (1 : Int32)), (.int (0 : Int32))])) rfl (by rw [hml]; rfl) (argsL := [(.int (0 : Int32)), (.int (1 : Int32))]) (rest := []) (lenOf pd_4 rfl) rfl (by show 2 * 0 + _ ≤ _; exact Nat.le_of_eq rfl) (hb hby d19_5) (fun _ _ => ⟨rfl, e3, (by decide : 0 + 0 ≤ _), (by decide : 0 + 0 ≤ _)⟩)
  dsimp only [Pt.U, Pt.locs, Pt.cells, Pt.slots] at X4 l4 y4 z4 st4 hQ4
  subst l4 y4 z4
  obtain ⟨rfl, N4q, e4⟩ := hQ4
  have N4 := Fr.app N0 N4q
  refine Go.step st4 ?_
  show Go p e below _ (T4.setTop (mkF m 8 #[.val (.ref a1), .val (.int (0 : Int32))] [(.int (f20 (0 : Int32) (1 : Int32)))]))
  refine Go.step (fun t k => XS.pop X4.here hx rfl (hb hby d19_8) rfl rfl k) ?_
  show Go p e below _ (T4.setTop (mkF m 9 #[.val (.ref a1), .val (.int (0 : Int32))] []))
  refine Go.step (fun t k => XS.aloadN X4.here hx rfl (hb hby d19_9) rfl rfl k) ?_
  show Go p e below _ (T4.setTop (mkF m 10 #[.val (.ref a1), .val (.int (0 : Int32))] [(.ref a1)]))
  refine Go.step (fun t k => XS.iloadN X4.here hx rfl (hb hby d19_10) rfl k) ?_
  show Go p e below _ (T4.setTop (mkF m 11 #[.val (.ref a1), .val (.int (0 : Int32))] [(.int (0 : Int32)), (.ref a1)]))
  obtain ⟨cq5, kq5, q5a, q5b, q5c⟩ := isOf hZ e4 E_a1
  obtain ⟨_, _, ⟨T5, L5, k5, n5⟩, -, X5, ⟨Lc5, hQ5, l5, y5, z5⟩, st5⟩ := X4.virtualBack hx (y := (⟨"java/util/ArrayList", "elementData", "(I)Ljava/lang/Object;"⟩ : MethodName)) (z := (⟨"java/util/ArrayList", "elementData", "(I)Ljava/lang/Object;"⟩ : MethodName)) hown (mvT hZ (hw _ (List.mem_of_getElem? (i := 146) rfl))) (mvT hZ (hw _ (List.mem_of_getElem? (i := 147) rfl))) (notFace_of_selects (args := #[]) (mvT hZ (hw _ (List.mem_of_getElem? (i := 149) rfl)))) (mvT hZ (hw _ (List.mem_of_getElem? (i := 149) rfl))) (mvT hZ (hw _ (List.mem_of_getElem? (i := 148) rfl))) (by decide) (backOf (W := 0) (rm22_1_0 l Z a0 hw [] a1 o_el y0 h0 n0 Z0 F_elementData_a1 A_o_el) hZ (hw _ (List.mem_of_getElem? (i := 150) rfl)) (hw _ (List.mem_of_getElem? (i := 35) rfl)) (by decide) (by decide)) q5a q5c (g := (mkF m 11 #[.val (.ref a1), .val (.int (0 : Int32))] [(.int (0 : Int32)), (.ref a1)])) rfl (by rw [hml]; rfl) (Steps.refl _) (argsL := [(.int (0 : Int32))]) (rest := []) (lenOf pd_10 rfl) rfl (by show 2 * 0 + _ ≤ _; exact Nat.le_of_eq rfl) (hb hby d19_11) (fun _ _ => ⟨rfl, e4, (by decide : 0 + 0 ≤ _), (by decide : 0 + 0 ≤ _)⟩)
  dsimp only [Pt.U, Pt.locs, Pt.cells, Pt.slots] at X5 l5 y5 z5 st5 hQ5
  subst l5 y5 z5
  obtain ⟨rfl, N5q, e5⟩ := hQ5
  have N5 := Fr.app N4 N5q
  refine Go.trans st5 ?_
  show Go p e below _ (T5.setTop (mkF m 14 #[.val (.ref a1), .val (.int (0 : Int32))] [(.ref y0)]))
  exact retGR X5 hx Bd.notSynchronized Bd.returns rfl rfl (hb hby d19_14) ⟨rfl, N5, e5⟩ (by decide) (by decide)
theorem ef_22_2_0 (m : MethodId) (a1 : Addr) : entryFrame m #[(.ref a1), (.int (0 : Int32))] 2 = mkF m 0 #[.val (.ref a1), .val (.int (0 : Int32))] [] := by first | (simp [entryFrame, mkF, argsToLocals, Value.category]; done) | rfl
set_option maxRecDepth 65536 in
set_option maxHeartbeats 40000000 in
theorem rm22_2_0 (l : Launch) (Z : State) (a0 : Array Value) (hw : ∀ d ∈ tables_1, d.before a0 Z = true) (ws : List Jvm.Cond) (a1 : Addr) (o_el : Addr) (y0 : Addr) (y1 : Addr) (h0 : Heap) (n0 : Nat) (Z0 : n0 ≤ h0.size) (F_elementData_a1 : Fld Z h0 a1 "java/util/ArrayList" "elementData" "[Ljava/lang/Object;" (.ref o_el)) (A_o_el : RAry Z h0 o_el (.object "java/lang/Object") "java/lang/Object" 10 (upA (upA (fun _ => .null) 0 (.ref y0)) 1 (.ref y1))) :
    MetFree l (⟨"java/util/ArrayList", "elementData", "(I)Ljava/lang/Object;"⟩ : MethodName) (head1 (Jvm.Cond.code (⟨"java/util/ArrayList", "elementData", "(I)Ljava/lang/Object;"⟩ : MethodName) jdk_38_method_18_code 2 (some (.object "java/lang/Object")) :: ws) ({ frames := 0, cells := 0, slots := 0, locals := 0 } : Room)) (fun a U => a = #[(.ref a1), (.int (0 : Int32))] ∧ Z.Warmed39 U.vm ∧ U.heap = h0) (fun _ _ _ _ _ => True) (fun _ U o U' => ∃ v L, o = .returned v ∧ QP (.ref y0) h0 n0 v U'.heap L ∧ FrameEnd U o U' L ({ frames := 0, cells := 0, slots := 0, locals := 0 } : Room).cells ({ frames := 0, cells := 0, slots := 0, locals := 0 } : Room).slots) := by
  refine MetFree.of_bodySF (plainFor_of_name pn_4) hisR ?_
  intro p e s m args below meth c s₁ Bd hml0 hP hK
  obtain ⟨rfl, hZ, hh⟩ := hP
  have hx := Bd.exec
  have hby := Bd.bytes
  have hml : c.maxLocals = 2 := hml0
  have hown : s.vm.findClass "java/util/ArrayList" = some m.cls := findClass_of_methodNamed Bd.named
  have hnm := (name_of_methodNamed Bd.named Bd.method).1
  have X0 : Stand p l e ({ frames := 0, cells := 0, slots := 0, locals := 0 } : Room) s m #[(.ref a1), (.int (0 : Int32))] below meth c s₁ [] 0 0 := Stand.of_body Bd
  have e0 : s₁.heap = h0 := by rw [← hh, Bd.state]; rfl
  have N0 := Fr.nil n0
  refine Go.done (Go.step (fun t k => castTop (ef_22_2_0 m a1) k) ?_)
  have KK0 : Keep h0 h0 [] := Keep.refl _ _
  show Go p e below _ (s₁.setTop (mkF m 0 #[.val (.ref a1), .val (.int (0 : Int32))] []))
  refine Go.step (fun t k => XS.aloadN X0.here hx rfl (hb hby d22_0) rfl rfl k) ?_
  show Go p e below _ (s₁.setTop (mkF m 1 #[.val (.ref a1), .val (.int (0 : Int32))] [(.ref a1)]))
  obtain ⟨T3, X3, e3, st3⟩ := getF X0 hx hZ hown (host := "") (Or.inl (hw _ (List.mem_of_getElem? (i := 55) rfl))) Via.refl e0 F_elementData_a1 (g := (mkF m 1 #[.val (.ref a1), .val (.int (0 : Int32))] [(.ref a1)])) rfl rfl (hb hby d22_1)
  refine Go.step st3 ?_
  show Go p e below _ (T3.setTop (mkF m 4 #[.val (.ref a1), .val (.int (0 : Int32))] [(.ref o_el)]))
  refine Go.step (fun t k => XS.iloadN X3.here hx rfl (hb hby d22_4) rfl k) ?_
  show Go p e below _ (T3.setTop (mkF m 5 #[.val (.ref a1), .val (.int (0 : Int32))] [(.int (0 : Int32)), (.ref o_el)]))
  refine Go.step (ldR X3 hx hZ e3 A_o_el.ary rfl (j := (0 : Int32)) (by decide) (by decide) (g := (mkF m 5 #[.val (.ref a1), .val (.int (0 : Int32))] [(.int (0 : Int32)), (.ref o_el)])) rfl rfl (hb hby d22_5)) ?_
  show Go p e below _ (T3.setTop (mkF m 6 #[.val (.ref a1), .val (.int (0 : Int32))] [(.ref y0)]))
  exact retGR X3 hx Bd.notSynchronized Bd.returns rfl rfl (hb hby d22_6) ⟨rfl, N0, e3⟩ (by decide) (by decide)
theorem ef_19_2_0 (m : MethodId) (a1 : Addr) : entryFrame m #[(.ref a1), (.int (0 : Int32))] 2 = mkF m 0 #[.val (.ref a1), .val (.int (0 : Int32))] [] := by first | (simp [entryFrame, mkF, argsToLocals, Value.category]; done) | rfl
set_option maxRecDepth 65536 in
set_option maxHeartbeats 40000000 in
theorem rm19_2_0 (l : Launch) (Z : State) (a0 : Array Value) (hw : ∀ d ∈ tables_1, d.before a0 Z = true) (ws : List Jvm.Cond) (a1 : Addr) (o_el : Addr) (y0 : Addr) (y1 : Addr) (h0 : Heap) (n0 : Nat) (Z0 : n0 ≤ h0.size) (F_elementData_a1 : Fld Z h0 a1 "java/util/ArrayList" "elementData" "[Ljava/lang/Object;" (.ref o_el)) (A_o_el : RAry Z h0 o_el (.object "java/lang/Object") "java/lang/Object" 10 (upA (upA (fun _ => .null) 0 (.ref y0)) 1 (.ref y1))) (E_a1 : Exa Z h0 a1 "java/util/ArrayList") (F_size_a1 : Fld Z h0 a1 "java/util/ArrayList" "size" "I" (.int (2 : Int32))) :
    MetFree l (⟨"java/util/ArrayList", "get", "(I)Ljava/lang/Object;"⟩ : MethodName) (head1 (Jvm.Cond.code (⟨"java/util/ArrayList", "get", "(I)Ljava/lang/Object;"⟩ : MethodName) jdk_38_method_20_code 2 (some (.object "java/lang/Object")) :: ws) ({ frames := 2, cells := 0, slots := 0, locals := 27 } : Room)) (fun a U => a = #[(.ref a1), (.int (0 : Int32))] ∧ Z.Warmed39 U.vm ∧ U.heap = h0) (fun _ _ _ _ _ => True) (fun _ U o U' => ∃ v L, o = .returned v ∧ QP (.ref y0) h0 n0 v U'.heap L ∧ FrameEnd U o U' L ({ frames := 2, cells := 0, slots := 0, locals := 27 } : Room).cells ({ frames := 2, cells := 0, slots := 0, locals := 27 } : Room).slots) := by
  refine MetFree.of_bodySF (plainFor_of_name pn_4) hisR ?_
  intro p e s m args below meth c s₁ Bd hml0 hP hK
  obtain ⟨rfl, hZ, hh⟩ := hP
  have hx := Bd.exec
  have hby := Bd.bytes
  have hml : c.maxLocals = 2 := hml0
  have hown : s.vm.findClass "java/util/ArrayList" = some m.cls := findClass_of_methodNamed Bd.named
  have hnm := (name_of_methodNamed Bd.named Bd.method).1
  have X0 : Stand p l e ({ frames := 2, cells := 0, slots := 0, locals := 27 } : Room) s m #[(.ref a1), (.int (0 : Int32))] below meth c s₁ [] 0 0 := Stand.of_body Bd
  have e0 : s₁.heap = h0 := by rw [← hh, Bd.state]; rfl
  have N0 := Fr.nil n0
  refine Go.done (Go.step (fun t k => castTop (ef_19_2_0 m a1) k) ?_)
  have KK0 : Keep h0 h0 [] := Keep.refl _ _
  show Go p e below _ (s₁.setTop (mkF m 0 #[.val (.ref a1), .val (.int (0 : Int32))] []))
  refine Go.step (fun t k => XS.iloadN X0.here hx rfl (hb hby d19_0) rfl k) ?_
  show Go p e below _ (s₁.setTop (mkF m 1 #[.val (.ref a1), .val (.int (0 : Int32))] [(.int (0 : Int32))]))
  refine Go.step (fun t k => XS.aloadN X0.here hx rfl (hb hby d19_1) rfl rfl k) ?_
  show Go p e below _ (s₁.setTop (mkF m 2 #[.val (.ref a1), .val (.int (0 : Int32))] [(.ref a1), (.int (0 : Int32))]))
  obtain ⟨T3, X3, e3, st3⟩ := getF X0 hx hZ hown (host := "") (Or.inl (hw _ (List.mem_of_getElem? (i := 79) rfl))) Via.refl e0 F_size_a1 (g := (mkF m 2 #[.val (.ref a1), .val (.int (0 : Int32))] [(.ref a1), (.int (0 : Int32))])) rfl rfl (hb hby d19_2)
  refine Go.step st3 ?_
  show Go p e below _ (T3.setTop (mkF m 5 #[.val (.ref a1), .val (.int (0 : Int32))] [(.int (2 : Int32)), (.int (0 : Int32))]))
  obtain ⟨_, _, ⟨T4, L4, k4, n4⟩, -, X4, ⟨Lc4, hQ4, l4, y4, z4⟩, st4⟩ := Jvm.LawKit.callS X3 hx (y := (⟨"java/util/Objects", "checkIndex", "(II)I"⟩ : MethodName)) hown (mvT hZ (hw _ (List.mem_of_getElem? (i := 138) rfl))) (mvT hZ (hw _ (List.mem_of_getElem? (i := 139) rfl))) (mvT hZ (hw _ (List.mem_of_getElem? (i := 140) rfl))) (mvT hZ (hw _ (List.mem_of_getElem? (i := 141) rfl))) (by decide) (backOf (W := 0) (rm20 l Z a0 hw [] (0 : Int32) (2 : Int32) h0 n0 Z0 (by decide : ¬ ((0 : Int32) < (0 : Int32))) (by decide : (0 : Int32) < (2 : Int32))) hZ (hw _ (List.mem_of_getElem? (i := 141) rfl)) (hw _ (List.mem_of_getElem? (i := 140) rfl)) (by decide) (by decide)) (g := (mkF m 5 #[.val (.ref a1), .val (.int (0 : Int32))] [(.int (2 : Int32)), (.int (0 : Int32))])) rfl (by rw [hml]; rfl) (argsL := [(.int (0 : Int32)), (.int (2 : Int32))]) (rest := []) (lenOf pd_4 rfl) rfl (by show 2 * 0 + _ ≤ _; exact Nat.le_of_eq rfl) (hb hby d19_5) (fun _ _ => ⟨rfl, e3, (by decide : 0 + 0 ≤ _), (by decide : 0 + 0 ≤ _)⟩)
  dsimp only [Pt.U, Pt.locs, Pt.cells, Pt.slots] at X4 l4 y4 z4 st4 hQ4
  subst l4 y4 z4
  obtain ⟨rfl, N4q, e4⟩ := hQ4
  have N4 := Fr.app N0 N4q
  refine Go.step st4 ?_
  show Go p e below _ (T4.setTop (mkF m 8 #[.val (.ref a1), .val (.int (0 : Int32))] [(.int (f20 (0 : Int32) (2 : Int32)))]))
  refine Go.step (fun t k => XS.pop X4.here hx rfl (hb hby d19_8) rfl rfl k) ?_
  show Go p e below _ (T4.setTop (mkF m 9 #[.val (.ref a1), .val (.int (0 : Int32))] []))
  refine Go.step (fun t k => XS.aloadN X4.here hx rfl (hb hby d19_9) rfl rfl k) ?_
  show Go p e below _ (T4.setTop (mkF m 10 #[.val (.ref a1), .val (.int (0 : Int32))] [(.ref a1)]))
  refine Go.step (fun t k => XS.iloadN X4.here hx rfl (hb hby d19_10) rfl k) ?_
  show Go p e below _ (T4.setTop (mkF m 11 #[.val (.ref a1), .val (.int (0 : Int32))] [(.int (0 : Int32)), (.ref a1)]))
  obtain ⟨cq5, kq5, q5a, q5b, q5c⟩ := isOf hZ e4 E_a1
  obtain ⟨_, _, ⟨T5, L5, k5, n5⟩, -, X5, ⟨Lc5, hQ5, l5, y5, z5⟩, st5⟩ := X4.virtualBack hx (y := (⟨"java/util/ArrayList", "elementData", "(I)Ljava/lang/Object;"⟩ : MethodName)) (z := (⟨"java/util/ArrayList", "elementData", "(I)Ljava/lang/Object;"⟩ : MethodName)) hown (mvT hZ (hw _ (List.mem_of_getElem? (i := 146) rfl))) (mvT hZ (hw _ (List.mem_of_getElem? (i := 147) rfl))) (notFace_of_selects (args := #[]) (mvT hZ (hw _ (List.mem_of_getElem? (i := 149) rfl)))) (mvT hZ (hw _ (List.mem_of_getElem? (i := 149) rfl))) (mvT hZ (hw _ (List.mem_of_getElem? (i := 148) rfl))) (by decide) (backOf (W := 0) (rm22_2_0 l Z a0 hw [] a1 o_el y0 y1 h0 n0 Z0 F_elementData_a1 A_o_el) hZ (hw _ (List.mem_of_getElem? (i := 150) rfl)) (hw _ (List.mem_of_getElem? (i := 35) rfl)) (by decide) (by decide)) q5a q5c (g := (mkF m 11 #[.val (.ref a1), .val (.int (0 : Int32))] [(.int (0 : Int32)), (.ref a1)])) rfl (by rw [hml]; rfl) (Steps.refl _) (argsL := [(.int (0 : Int32))]) (rest := []) (lenOf pd_10 rfl) rfl (by show 2 * 0 + _ ≤ _; exact Nat.le_of_eq rfl) (hb hby d19_11) (fun _ _ => ⟨rfl, e4, (by decide : 0 + 0 ≤ _), (by decide : 0 + 0 ≤ _)⟩)
  dsimp only [Pt.U, Pt.locs, Pt.cells, Pt.slots] at X5 l5 y5 z5 st5 hQ5
  subst l5 y5 z5
  obtain ⟨rfl, N5q, e5⟩ := hQ5
  have N5 := Fr.app N4 N5q
  refine Go.trans st5 ?_
  show Go p e below _ (T5.setTop (mkF m 14 #[.val (.ref a1), .val (.int (0 : Int32))] [(.ref y0)]))
  exact retGR X5 hx Bd.notSynchronized Bd.returns rfl rfl (hb hby d19_14) ⟨rfl, N5, e5⟩ (by decide) (by decide)
theorem ef_22_2_1 (m : MethodId) (a1 : Addr) : entryFrame m #[(.ref a1), (.int (1 : Int32))] 2 = mkF m 0 #[.val (.ref a1), .val (.int (1 : Int32))] [] := by first | (simp [entryFrame, mkF, argsToLocals, Value.category]; done) | rfl
set_option maxRecDepth 65536 in
set_option maxHeartbeats 40000000 in
theorem rm22_2_1 (l : Launch) (Z : State) (a0 : Array Value) (hw : ∀ d ∈ tables_1, d.before a0 Z = true) (ws : List Jvm.Cond) (a1 : Addr) (o_el : Addr) (y0 : Addr) (y1 : Addr) (h0 : Heap) (n0 : Nat) (Z0 : n0 ≤ h0.size) (F_elementData_a1 : Fld Z h0 a1 "java/util/ArrayList" "elementData" "[Ljava/lang/Object;" (.ref o_el)) (A_o_el : RAry Z h0 o_el (.object "java/lang/Object") "java/lang/Object" 10 (upA (upA (fun _ => .null) 0 (.ref y0)) 1 (.ref y1))) :
    MetFree l (⟨"java/util/ArrayList", "elementData", "(I)Ljava/lang/Object;"⟩ : MethodName) (head1 (Jvm.Cond.code (⟨"java/util/ArrayList", "elementData", "(I)Ljava/lang/Object;"⟩ : MethodName) jdk_38_method_18_code 2 (some (.object "java/lang/Object")) :: ws) ({ frames := 0, cells := 0, slots := 0, locals := 0 } : Room)) (fun a U => a = #[(.ref a1), (.int (1 : Int32))] ∧ Z.Warmed39 U.vm ∧ U.heap = h0) (fun _ _ _ _ _ => True) (fun _ U o U' => ∃ v L, o = .returned v ∧ QP (.ref y1) h0 n0 v U'.heap L ∧ FrameEnd U o U' L ({ frames := 0, cells := 0, slots := 0, locals := 0 } : Room).cells ({ frames := 0, cells := 0, slots := 0, locals := 0 } : Room).slots) := by
  refine MetFree.of_bodySF (plainFor_of_name pn_4) hisR ?_
  intro p e s m args below meth c s₁ Bd hml0 hP hK
  obtain ⟨rfl, hZ, hh⟩ := hP
  have hx := Bd.exec
  have hby := Bd.bytes
  have hml : c.maxLocals = 2 := hml0
  have hown : s.vm.findClass "java/util/ArrayList" = some m.cls := findClass_of_methodNamed Bd.named
  have hnm := (name_of_methodNamed Bd.named Bd.method).1
  have X0 : Stand p l e ({ frames := 0, cells := 0, slots := 0, locals := 0 } : Room) s m #[(.ref a1), (.int (1 : Int32))] below meth c s₁ [] 0 0 := Stand.of_body Bd
  have e0 : s₁.heap = h0 := by rw [← hh, Bd.state]; rfl
  have N0 := Fr.nil n0
  refine Go.done (Go.step (fun t k => castTop (ef_22_2_1 m a1) k) ?_)
  have KK0 : Keep h0 h0 [] := Keep.refl _ _
  show Go p e below _ (s₁.setTop (mkF m 0 #[.val (.ref a1), .val (.int (1 : Int32))] []))
  refine Go.step (fun t k => XS.aloadN X0.here hx rfl (hb hby d22_0) rfl rfl k) ?_
  show Go p e below _ (s₁.setTop (mkF m 1 #[.val (.ref a1), .val (.int (1 : Int32))] [(.ref a1)]))
  obtain ⟨T3, X3, e3, st3⟩ := getF X0 hx hZ hown (host := "") (Or.inl (hw _ (List.mem_of_getElem? (i := 55) rfl))) Via.refl e0 F_elementData_a1 (g := (mkF m 1 #[.val (.ref a1), .val (.int (1 : Int32))] [(.ref a1)])) rfl rfl (hb hby d22_1)
  refine Go.step st3 ?_
  show Go p e below _ (T3.setTop (mkF m 4 #[.val (.ref a1), .val (.int (1 : Int32))] [(.ref o_el)]))
  refine Go.step (fun t k => XS.iloadN X3.here hx rfl (hb hby d22_4) rfl k) ?_
  show Go p e below _ (T3.setTop (mkF m 5 #[.val (.ref a1), .val (.int (1 : Int32))] [(.int (1 : Int32)), (.ref o_el)]))
  refine Go.step (ldR X3 hx hZ e3 A_o_el.ary rfl (j := (1 : Int32)) (by decide) (by decide) (g := (mkF m 5 #[.val (.ref a1), .val (.int (1 : Int32))] [(.int (1 : Int32)), (.ref o_el)])) rfl rfl (hb hby d22_5)) ?_
  show Go p e below _ (T3.setTop (mkF m 6 #[.val (.ref a1), .val (.int (1 : Int32))] [(.ref y1)]))
  exact retGR X3 hx Bd.notSynchronized Bd.returns rfl rfl (hb hby d22_6) ⟨rfl, N0, e3⟩ (by decide) (by decide)
theorem ef_19_2_1 (m : MethodId) (a1 : Addr) : entryFrame m #[(.ref a1), (.int (1 : Int32))] 2 = mkF m 0 #[.val (.ref a1), .val (.int (1 : Int32))] [] := by first | (simp [entryFrame, mkF, argsToLocals, Value.category]; done) | rfl
set_option maxRecDepth 65536 in
set_option maxHeartbeats 40000000 in
theorem rm19_2_1 (l : Launch) (Z : State) (a0 : Array Value) (hw : ∀ d ∈ tables_1, d.before a0 Z = true) (ws : List Jvm.Cond) (a1 : Addr) (o_el : Addr) (y0 : Addr) (y1 : Addr) (h0 : Heap) (n0 : Nat) (Z0 : n0 ≤ h0.size) (F_elementData_a1 : Fld Z h0 a1 "java/util/ArrayList" "elementData" "[Ljava/lang/Object;" (.ref o_el)) (A_o_el : RAry Z h0 o_el (.object "java/lang/Object") "java/lang/Object" 10 (upA (upA (fun _ => .null) 0 (.ref y0)) 1 (.ref y1))) (E_a1 : Exa Z h0 a1 "java/util/ArrayList") (F_size_a1 : Fld Z h0 a1 "java/util/ArrayList" "size" "I" (.int (2 : Int32))) :
    MetFree l (⟨"java/util/ArrayList", "get", "(I)Ljava/lang/Object;"⟩ : MethodName) (head1 (Jvm.Cond.code (⟨"java/util/ArrayList", "get", "(I)Ljava/lang/Object;"⟩ : MethodName) jdk_38_method_20_code 2 (some (.object "java/lang/Object")) :: ws) ({ frames := 2, cells := 0, slots := 0, locals := 27 } : Room)) (fun a U => a = #[(.ref a1), (.int (1 : Int32))] ∧ Z.Warmed39 U.vm ∧ U.heap = h0) (fun _ _ _ _ _ => True) (fun _ U o U' => ∃ v L, o = .returned v ∧ QP (.ref y1) h0 n0 v U'.heap L ∧ FrameEnd U o U' L ({ frames := 2, cells := 0, slots := 0, locals := 27 } : Room).cells ({ frames := 2, cells := 0, slots := 0, locals := 27 } : Room).slots) := by
  refine MetFree.of_bodySF (plainFor_of_name pn_4) hisR ?_
  intro p e s m args below meth c s₁ Bd hml0 hP hK
  obtain ⟨rfl, hZ, hh⟩ := hP
  have hx := Bd.exec
  have hby := Bd.bytes
  have hml : c.maxLocals = 2 := hml0
  have hown : s.vm.findClass "java/util/ArrayList" = some m.cls := findClass_of_methodNamed Bd.named
  have hnm := (name_of_methodNamed Bd.named Bd.method).1
  have X0 : Stand p l e ({ frames := 2, cells := 0, slots := 0, locals := 27 } : Room) s m #[(.ref a1), (.int (1 : Int32))] below meth c s₁ [] 0 0 := Stand.of_body Bd
  have e0 : s₁.heap = h0 := by rw [← hh, Bd.state]; rfl
  have N0 := Fr.nil n0
  refine Go.done (Go.step (fun t k => castTop (ef_19_2_1 m a1) k) ?_)
  have KK0 : Keep h0 h0 [] := Keep.refl _ _
  show Go p e below _ (s₁.setTop (mkF m 0 #[.val (.ref a1), .val (.int (1 : Int32))] []))
  refine Go.step (fun t k => XS.iloadN X0.here hx rfl (hb hby d19_0) rfl k) ?_
  show Go p e below _ (s₁.setTop (mkF m 1 #[.val (.ref a1), .val (.int (1 : Int32))] [(.int (1 : Int32))]))
  refine Go.step (fun t k => XS.aloadN X0.here hx rfl (hb hby d19_1) rfl rfl k) ?_
  show Go p e below _ (s₁.setTop (mkF m 2 #[.val (.ref a1), .val (.int (1 : Int32))] [(.ref a1), (.int (1 : Int32))]))
  obtain ⟨T3, X3, e3, st3⟩ := getF X0 hx hZ hown (host := "") (Or.inl (hw _ (List.mem_of_getElem? (i := 79) rfl))) Via.refl e0 F_size_a1 (g := (mkF m 2 #[.val (.ref a1), .val (.int (1 : Int32))] [(.ref a1), (.int (1 : Int32))])) rfl rfl (hb hby d19_2)
  refine Go.step st3 ?_
  show Go p e below _ (T3.setTop (mkF m 5 #[.val (.ref a1), .val (.int (1 : Int32))] [(.int (2 : Int32)), (.int (1 : Int32))]))
  obtain ⟨_, _, ⟨T4, L4, k4, n4⟩, -, X4, ⟨Lc4, hQ4, l4, y4, z4⟩, st4⟩ := Jvm.LawKit.callS X3 hx (y := (⟨"java/util/Objects", "checkIndex", "(II)I"⟩ : MethodName)) hown (mvT hZ (hw _ (List.mem_of_getElem? (i := 138) rfl))) (mvT hZ (hw _ (List.mem_of_getElem? (i := 139) rfl))) (mvT hZ (hw _ (List.mem_of_getElem? (i := 140) rfl))) (mvT hZ (hw _ (List.mem_of_getElem? (i := 141) rfl))) (by decide) (backOf (W := 0) (rm20 l Z a0 hw [] (1 : Int32) (2 : Int32) h0 n0 Z0 (by decide : ¬ ((1 : Int32) < (0 : Int32))) (by decide : (1 : Int32) < (2 : Int32))) hZ (hw _ (List.mem_of_getElem? (i := 141) rfl)) (hw _ (List.mem_of_getElem? (i := 140) rfl)) (by decide) (by decide)) (g := (mkF m 5 #[.val (.ref a1), .val (.int (1 : Int32))] [(.int (2 : Int32)), (.int (1 : Int32))])) rfl (by rw [hml]; rfl) (argsL := [(.int (1 : Int32)), (.int (2 : Int32))]) (rest := []) (lenOf pd_4 rfl) rfl (by show 2 * 0 + _ ≤ _; exact Nat.le_of_eq rfl) (hb hby d19_5) (fun _ _ => ⟨rfl, e3, (by decide : 0 + 0 ≤ _), (by decide : 0 + 0 ≤ _)⟩)
  dsimp only [Pt.U, Pt.locs, Pt.cells, Pt.slots] at X4 l4 y4 z4 st4 hQ4
  subst l4 y4 z4
  obtain ⟨rfl, N4q, e4⟩ := hQ4
  have N4 := Fr.app N0 N4q
  refine Go.step st4 ?_
  show Go p e below _ (T4.setTop (mkF m 8 #[.val (.ref a1), .val (.int (1 : Int32))] [(.int (f20 (1 : Int32) (2 : Int32)))]))
  refine Go.step (fun t k => XS.pop X4.here hx rfl (hb hby d19_8) rfl rfl k) ?_
  show Go p e below _ (T4.setTop (mkF m 9 #[.val (.ref a1), .val (.int (1 : Int32))] []))
  refine Go.step (fun t k => XS.aloadN X4.here hx rfl (hb hby d19_9) rfl rfl k) ?_
  show Go p e below _ (T4.setTop (mkF m 10 #[.val (.ref a1), .val (.int (1 : Int32))] [(.ref a1)]))
  refine Go.step (fun t k => XS.iloadN X4.here hx rfl (hb hby d19_10) rfl k) ?_
  show Go p e below _ (T4.setTop (mkF m 11 #[.val (.ref a1), .val (.int (1 : Int32))] [(.int (1 : Int32)), (.ref a1)]))
  obtain ⟨cq5, kq5, q5a, q5b, q5c⟩ := isOf hZ e4 E_a1
  obtain ⟨_, _, ⟨T5, L5, k5, n5⟩, -, X5, ⟨Lc5, hQ5, l5, y5, z5⟩, st5⟩ := X4.virtualBack hx (y := (⟨"java/util/ArrayList", "elementData", "(I)Ljava/lang/Object;"⟩ : MethodName)) (z := (⟨"java/util/ArrayList", "elementData", "(I)Ljava/lang/Object;"⟩ : MethodName)) hown (mvT hZ (hw _ (List.mem_of_getElem? (i := 146) rfl))) (mvT hZ (hw _ (List.mem_of_getElem? (i := 147) rfl))) (notFace_of_selects (args := #[]) (mvT hZ (hw _ (List.mem_of_getElem? (i := 149) rfl)))) (mvT hZ (hw _ (List.mem_of_getElem? (i := 149) rfl))) (mvT hZ (hw _ (List.mem_of_getElem? (i := 148) rfl))) (by decide) (backOf (W := 0) (rm22_2_1 l Z a0 hw [] a1 o_el y0 y1 h0 n0 Z0 F_elementData_a1 A_o_el) hZ (hw _ (List.mem_of_getElem? (i := 150) rfl)) (hw _ (List.mem_of_getElem? (i := 35) rfl)) (by decide) (by decide)) q5a q5c (g := (mkF m 11 #[.val (.ref a1), .val (.int (1 : Int32))] [(.int (1 : Int32)), (.ref a1)])) rfl (by rw [hml]; rfl) (Steps.refl _) (argsL := [(.int (1 : Int32))]) (rest := []) (lenOf pd_10 rfl) rfl (by show 2 * 0 + _ ≤ _; exact Nat.le_of_eq rfl) (hb hby d19_11) (fun _ _ => ⟨rfl, e4, (by decide : 0 + 0 ≤ _), (by decide : 0 + 0 ≤ _)⟩)
  dsimp only [Pt.U, Pt.locs, Pt.cells, Pt.slots] at X5 l5 y5 z5 st5 hQ5
  subst l5 y5 z5
  obtain ⟨rfl, N5q, e5⟩ := hQ5
  have N5 := Fr.app N4 N5q
  refine Go.trans st5 ?_
  show Go p e below _ (T5.setTop (mkF m 14 #[.val (.ref a1), .val (.int (1 : Int32))] [(.ref y1)]))
  exact retGR X5 hx Bd.notSynchronized Bd.returns rfl rfl (hb hby d19_14) ⟨rfl, N5, e5⟩ (by decide) (by decide)
theorem ef_22_3_0 (m : MethodId) (a1 : Addr) : entryFrame m #[(.ref a1), (.int (0 : Int32))] 2 = mkF m 0 #[.val (.ref a1), .val (.int (0 : Int32))] [] := by first | (simp [entryFrame, mkF, argsToLocals, Value.category]; done) | rfl
set_option maxRecDepth 65536 in
set_option maxHeartbeats 40000000 in
theorem rm22_3_0 (l : Launch) (Z : State) (a0 : Array Value) (hw : ∀ d ∈ tables_1, d.before a0 Z = true) (ws : List Jvm.Cond) (a1 : Addr) (o_el : Addr) (y0 : Addr) (y1 : Addr) (y2 : Addr) (h0 : Heap) (n0 : Nat) (Z0 : n0 ≤ h0.size) (F_elementData_a1 : Fld Z h0 a1 "java/util/ArrayList" "elementData" "[Ljava/lang/Object;" (.ref o_el)) (A_o_el : RAry Z h0 o_el (.object "java/lang/Object") "java/lang/Object" 10 (upA (upA (upA (fun _ => .null) 0 (.ref y0)) 1 (.ref y1)) 2 (.ref y2))) :
    MetFree l (⟨"java/util/ArrayList", "elementData", "(I)Ljava/lang/Object;"⟩ : MethodName) (head1 (Jvm.Cond.code (⟨"java/util/ArrayList", "elementData", "(I)Ljava/lang/Object;"⟩ : MethodName) jdk_38_method_18_code 2 (some (.object "java/lang/Object")) :: ws) ({ frames := 0, cells := 0, slots := 0, locals := 0 } : Room)) (fun a U => a = #[(.ref a1), (.int (0 : Int32))] ∧ Z.Warmed39 U.vm ∧ U.heap = h0) (fun _ _ _ _ _ => True) (fun _ U o U' => ∃ v L, o = .returned v ∧ QP (.ref y0) h0 n0 v U'.heap L ∧ FrameEnd U o U' L ({ frames := 0, cells := 0, slots := 0, locals := 0 } : Room).cells ({ frames := 0, cells := 0, slots := 0, locals := 0 } : Room).slots) := by
  refine MetFree.of_bodySF (plainFor_of_name pn_4) hisR ?_
  intro p e s m args below meth c s₁ Bd hml0 hP hK
  obtain ⟨rfl, hZ, hh⟩ := hP
  have hx := Bd.exec
  have hby := Bd.bytes
  have hml : c.maxLocals = 2 := hml0
  have hown : s.vm.findClass "java/util/ArrayList" = some m.cls := findClass_of_methodNamed Bd.named
  have hnm := (name_of_methodNamed Bd.named Bd.method).1
  have X0 : Stand p l e ({ frames := 0, cells := 0, slots := 0, locals := 0 } : Room) s m #[(.ref a1), (.int (0 : Int32))] below meth c s₁ [] 0 0 := Stand.of_body Bd
  have e0 : s₁.heap = h0 := by rw [← hh, Bd.state]; rfl
  have N0 := Fr.nil n0
  refine Go.done (Go.step (fun t k => castTop (ef_22_3_0 m a1) k) ?_)
  have KK0 : Keep h0 h0 [] := Keep.refl _ _
  show Go p e below _ (s₁.setTop (mkF m 0 #[.val (.ref a1), .val (.int (0 : Int32))] []))
  refine Go.step (fun t k => XS.aloadN X0.here hx rfl (hb hby d22_0) rfl rfl k) ?_
  show Go p e below _ (s₁.setTop (mkF m 1 #[.val (.ref a1), .val (.int (0 : Int32))] [(.ref a1)]))
  obtain ⟨T3, X3, e3, st3⟩ := getF X0 hx hZ hown (host := "") (Or.inl (hw _ (List.mem_of_getElem? (i := 55) rfl))) Via.refl e0 F_elementData_a1 (g := (mkF m 1 #[.val (.ref a1), .val (.int (0 : Int32))] [(.ref a1)])) rfl rfl (hb hby d22_1)
  refine Go.step st3 ?_
  show Go p e below _ (T3.setTop (mkF m 4 #[.val (.ref a1), .val (.int (0 : Int32))] [(.ref o_el)]))
  refine Go.step (fun t k => XS.iloadN X3.here hx rfl (hb hby d22_4) rfl k) ?_
  show Go p e below _ (T3.setTop (mkF m 5 #[.val (.ref a1), .val (.int (0 : Int32))] [(.int (0 : Int32)), (.ref o_el)]))
  refine Go.step (ldR X3 hx hZ e3 A_o_el.ary rfl (j := (0 : Int32)) (by decide) (by decide) (g := (mkF m 5 #[.val (.ref a1), .val (.int (0 : Int32))] [(.int (0 : Int32)), (.ref o_el)])) rfl rfl (hb hby d22_5)) ?_
  show Go p e below _ (T3.setTop (mkF m 6 #[.val (.ref a1), .val (.int (0 : Int32))] [(.ref y0)]))
  exact retGR X3 hx Bd.notSynchronized Bd.returns rfl rfl (hb hby d22_6) ⟨rfl, N0, e3⟩ (by decide) (by decide)
theorem ef_19_3_0 (m : MethodId) (a1 : Addr) : entryFrame m #[(.ref a1), (.int (0 : Int32))] 2 = mkF m 0 #[.val (.ref a1), .val (.int (0 : Int32))] [] := by first | (simp [entryFrame, mkF, argsToLocals, Value.category]; done) | rfl
set_option maxRecDepth 65536 in
set_option maxHeartbeats 40000000 in
theorem rm19_3_0 (l : Launch) (Z : State) (a0 : Array Value) (hw : ∀ d ∈ tables_1, d.before a0 Z = true) (ws : List Jvm.Cond) (a1 : Addr) (o_el : Addr) (y0 : Addr) (y1 : Addr) (y2 : Addr) (h0 : Heap) (n0 : Nat) (Z0 : n0 ≤ h0.size) (F_elementData_a1 : Fld Z h0 a1 "java/util/ArrayList" "elementData" "[Ljava/lang/Object;" (.ref o_el)) (A_o_el : RAry Z h0 o_el (.object "java/lang/Object") "java/lang/Object" 10 (upA (upA (upA (fun _ => .null) 0 (.ref y0)) 1 (.ref y1)) 2 (.ref y2))) (E_a1 : Exa Z h0 a1 "java/util/ArrayList") (F_size_a1 : Fld Z h0 a1 "java/util/ArrayList" "size" "I" (.int (3 : Int32))) :
    MetFree l (⟨"java/util/ArrayList", "get", "(I)Ljava/lang/Object;"⟩ : MethodName) (head1 (Jvm.Cond.code (⟨"java/util/ArrayList", "get", "(I)Ljava/lang/Object;"⟩ : MethodName) jdk_38_method_20_code 2 (some (.object "java/lang/Object")) :: ws) ({ frames := 2, cells := 0, slots := 0, locals := 27 } : Room)) (fun a U => a = #[(.ref a1), (.int (0 : Int32))] ∧ Z.Warmed39 U.vm ∧ U.heap = h0) (fun _ _ _ _ _ => True) (fun _ U o U' => ∃ v L, o = .returned v ∧ QP (.ref y0) h0 n0 v U'.heap L ∧ FrameEnd U o U' L ({ frames := 2, cells := 0, slots := 0, locals := 27 } : Room).cells ({ frames := 2, cells := 0, slots := 0, locals := 27 } : Room).slots) := by
  refine MetFree.of_bodySF (plainFor_of_name pn_4) hisR ?_
  intro p e s m args below meth c s₁ Bd hml0 hP hK
  obtain ⟨rfl, hZ, hh⟩ := hP
  have hx := Bd.exec
  have hby := Bd.bytes
  have hml : c.maxLocals = 2 := hml0
  have hown : s.vm.findClass "java/util/ArrayList" = some m.cls := findClass_of_methodNamed Bd.named
  have hnm := (name_of_methodNamed Bd.named Bd.method).1
  have X0 : Stand p l e ({ frames := 2, cells := 0, slots := 0, locals := 27 } : Room) s m #[(.ref a1), (.int (0 : Int32))] below meth c s₁ [] 0 0 := Stand.of_body Bd
  have e0 : s₁.heap = h0 := by rw [← hh, Bd.state]; rfl
  have N0 := Fr.nil n0
  refine Go.done (Go.step (fun t k => castTop (ef_19_3_0 m a1) k) ?_)
  have KK0 : Keep h0 h0 [] := Keep.refl _ _
  show Go p e below _ (s₁.setTop (mkF m 0 #[.val (.ref a1), .val (.int (0 : Int32))] []))
  refine Go.step (fun t k => XS.iloadN X0.here hx rfl (hb hby d19_0) rfl k) ?_
  show Go p e below _ (s₁.setTop (mkF m 1 #[.val (.ref a1), .val (.int (0 : Int32))] [(.int (0 : Int32))]))
  refine Go.step (fun t k => XS.aloadN X0.here hx rfl (hb hby d19_1) rfl rfl k) ?_
  show Go p e below _ (s₁.setTop (mkF m 2 #[.val (.ref a1), .val (.int (0 : Int32))] [(.ref a1), (.int (0 : Int32))]))
  obtain ⟨T3, X3, e3, st3⟩ := getF X0 hx hZ hown (host := "") (Or.inl (hw _ (List.mem_of_getElem? (i := 79) rfl))) Via.refl e0 F_size_a1 (g := (mkF m 2 #[.val (.ref a1), .val (.int (0 : Int32))] [(.ref a1), (.int (0 : Int32))])) rfl rfl (hb hby d19_2)
  refine Go.step st3 ?_
  show Go p e below _ (T3.setTop (mkF m 5 #[.val (.ref a1), .val (.int (0 : Int32))] [(.int (3 : Int32)), (.int (0 : Int32))]))
  obtain ⟨_, _, ⟨T4, L4, k4, n4⟩, -, X4, ⟨Lc4, hQ4, l4, y4, z4⟩, st4⟩ := Jvm.LawKit.callS X3 hx (y := (⟨"java/util/Objects", "checkIndex", "(II)I"⟩ : MethodName)) hown (mvT hZ (hw _ (List.mem_of_getElem? (i := 138) rfl))) (mvT hZ (hw _ (List.mem_of_getElem? (i := 139) rfl))) (mvT hZ (hw _ (List.mem_of_getElem? (i := 140) rfl))) (mvT hZ (hw _ (List.mem_of_getElem? (i := 141) rfl))) (by decide) (backOf (W := 0) (rm20 l Z a0 hw [] (0 : Int32) (3 : Int32) h0 n0 Z0 (by decide : ¬ ((0 : Int32) < (0 : Int32))) (by decide : (0 : Int32) < (3 : Int32))) hZ (hw _ (List.mem_of_getElem? (i := 141) rfl)) (hw _ (List.mem_of_getElem? (i := 140) rfl)) (by decide) (by decide)) (g := (mkF m 5 #[.val (.ref a1), .val (.int (0 : Int32))] [(.int (3 : Int32)), (.int (0 : Int32))])) rfl (by rw [hml]; rfl) (argsL := [(.int (0 : Int32)), (.int (3 : Int32))]) (rest := []) (lenOf pd_4 rfl) rfl (by show 2 * 0 + _ ≤ _; exact Nat.le_of_eq rfl) (hb hby d19_5) (fun _ _ => ⟨rfl, e3, (by decide : 0 + 0 ≤ _), (by decide : 0 + 0 ≤ _)⟩)
  dsimp only [Pt.U, Pt.locs, Pt.cells, Pt.slots] at X4 l4 y4 z4 st4 hQ4
  subst l4 y4 z4
  obtain ⟨rfl, N4q, e4⟩ := hQ4
  have N4 := Fr.app N0 N4q
  refine Go.step st4 ?_
  show Go p e below _ (T4.setTop (mkF m 8 #[.val (.ref a1), .val (.int (0 : Int32))] [(.int (f20 (0 : Int32) (3 : Int32)))]))
  refine Go.step (fun t k => XS.pop X4.here hx rfl (hb hby d19_8) rfl rfl k) ?_
  show Go p e below _ (T4.setTop (mkF m 9 #[.val (.ref a1), .val (.int (0 : Int32))] []))
  refine Go.step (fun t k => XS.aloadN X4.here hx rfl (hb hby d19_9) rfl rfl k) ?_
  show Go p e below _ (T4.setTop (mkF m 10 #[.val (.ref a1), .val (.int (0 : Int32))] [(.ref a1)]))
  refine Go.step (fun t k => XS.iloadN X4.here hx rfl (hb hby d19_10) rfl k) ?_
  show Go p e below _ (T4.setTop (mkF m 11 #[.val (.ref a1), .val (.int (0 : Int32))] [(.int (0 : Int32)), (.ref a1)]))
  obtain ⟨cq5, kq5, q5a, q5b, q5c⟩ := isOf hZ e4 E_a1
  obtain ⟨_, _, ⟨T5, L5, k5, n5⟩, -, X5, ⟨Lc5, hQ5, l5, y5, z5⟩, st5⟩ := X4.virtualBack hx (y := (⟨"java/util/ArrayList", "elementData", "(I)Ljava/lang/Object;"⟩ : MethodName)) (z := (⟨"java/util/ArrayList", "elementData", "(I)Ljava/lang/Object;"⟩ : MethodName)) hown (mvT hZ (hw _ (List.mem_of_getElem? (i := 146) rfl))) (mvT hZ (hw _ (List.mem_of_getElem? (i := 147) rfl))) (notFace_of_selects (args := #[]) (mvT hZ (hw _ (List.mem_of_getElem? (i := 149) rfl)))) (mvT hZ (hw _ (List.mem_of_getElem? (i := 149) rfl))) (mvT hZ (hw _ (List.mem_of_getElem? (i := 148) rfl))) (by decide) (backOf (W := 0) (rm22_3_0 l Z a0 hw [] a1 o_el y0 y1 y2 h0 n0 Z0 F_elementData_a1 A_o_el) hZ (hw _ (List.mem_of_getElem? (i := 150) rfl)) (hw _ (List.mem_of_getElem? (i := 35) rfl)) (by decide) (by decide)) q5a q5c (g := (mkF m 11 #[.val (.ref a1), .val (.int (0 : Int32))] [(.int (0 : Int32)), (.ref a1)])) rfl (by rw [hml]; rfl) (Steps.refl _) (argsL := [(.int (0 : Int32))]) (rest := []) (lenOf pd_10 rfl) rfl (by show 2 * 0 + _ ≤ _; exact Nat.le_of_eq rfl) (hb hby d19_11) (fun _ _ => ⟨rfl, e4, (by decide : 0 + 0 ≤ _), (by decide : 0 + 0 ≤ _)⟩)
  dsimp only [Pt.U, Pt.locs, Pt.cells, Pt.slots] at X5 l5 y5 z5 st5 hQ5
  subst l5 y5 z5
  obtain ⟨rfl, N5q, e5⟩ := hQ5
  have N5 := Fr.app N4 N5q
  refine Go.trans st5 ?_
  show Go p e below _ (T5.setTop (mkF m 14 #[.val (.ref a1), .val (.int (0 : Int32))] [(.ref y0)]))
  exact retGR X5 hx Bd.notSynchronized Bd.returns rfl rfl (hb hby d19_14) ⟨rfl, N5, e5⟩ (by decide) (by decide)
theorem ef_22_3_1 (m : MethodId) (a1 : Addr) : entryFrame m #[(.ref a1), (.int (1 : Int32))] 2 = mkF m 0 #[.val (.ref a1), .val (.int (1 : Int32))] [] := by first | (simp [entryFrame, mkF, argsToLocals, Value.category]; done) | rfl
set_option maxRecDepth 65536 in
set_option maxHeartbeats 40000000 in
theorem rm22_3_1 (l : Launch) (Z : State) (a0 : Array Value) (hw : ∀ d ∈ tables_1, d.before a0 Z = true) (ws : List Jvm.Cond) (a1 : Addr) (o_el : Addr) (y0 : Addr) (y1 : Addr) (y2 : Addr) (h0 : Heap) (n0 : Nat) (Z0 : n0 ≤ h0.size) (F_elementData_a1 : Fld Z h0 a1 "java/util/ArrayList" "elementData" "[Ljava/lang/Object;" (.ref o_el)) (A_o_el : RAry Z h0 o_el (.object "java/lang/Object") "java/lang/Object" 10 (upA (upA (upA (fun _ => .null) 0 (.ref y0)) 1 (.ref y1)) 2 (.ref y2))) :
    MetFree l (⟨"java/util/ArrayList", "elementData", "(I)Ljava/lang/Object;"⟩ : MethodName) (head1 (Jvm.Cond.code (⟨"java/util/ArrayList", "elementData", "(I)Ljava/lang/Object;"⟩ : MethodName) jdk_38_method_18_code 2 (some (.object "java/lang/Object")) :: ws) ({ frames := 0, cells := 0, slots := 0, locals := 0 } : Room)) (fun a U => a = #[(.ref a1), (.int (1 : Int32))] ∧ Z.Warmed39 U.vm ∧ U.heap = h0) (fun _ _ _ _ _ => True) (fun _ U o U' => ∃ v L, o = .returned v ∧ QP (.ref y1) h0 n0 v U'.heap L ∧ FrameEnd U o U' L ({ frames := 0, cells := 0, slots := 0, locals := 0 } : Room).cells ({ frames := 0, cells := 0, slots := 0, locals := 0 } : Room).slots) := by
  refine MetFree.of_bodySF (plainFor_of_name pn_4) hisR ?_
  intro p e s m args below meth c s₁ Bd hml0 hP hK
  obtain ⟨rfl, hZ, hh⟩ := hP
  have hx := Bd.exec
  have hby := Bd.bytes
  have hml : c.maxLocals = 2 := hml0
  have hown : s.vm.findClass "java/util/ArrayList" = some m.cls := findClass_of_methodNamed Bd.named
  have hnm := (name_of_methodNamed Bd.named Bd.method).1
  have X0 : Stand p l e ({ frames := 0, cells := 0, slots := 0, locals := 0 } : Room) s m #[(.ref a1), (.int (1 : Int32))] below meth c s₁ [] 0 0 := Stand.of_body Bd
  have e0 : s₁.heap = h0 := by rw [← hh, Bd.state]; rfl
  have N0 := Fr.nil n0
  refine Go.done (Go.step (fun t k => castTop (ef_22_3_1 m a1) k) ?_)
  have KK0 : Keep h0 h0 [] := Keep.refl _ _
  show Go p e below _ (s₁.setTop (mkF m 0 #[.val (.ref a1), .val (.int (1 : Int32))] []))
  refine Go.step (fun t k => XS.aloadN X0.here hx rfl (hb hby d22_0) rfl rfl k) ?_
  show Go p e below _ (s₁.setTop (mkF m 1 #[.val (.ref a1), .val (.int (1 : Int32))] [(.ref a1)]))
  obtain ⟨T3, X3, e3, st3⟩ := getF X0 hx hZ hown (host := "") (Or.inl (hw _ (List.mem_of_getElem? (i := 55) rfl))) Via.refl e0 F_elementData_a1 (g := (mkF m 1 #[.val (.ref a1), .val (.int (1 : Int32))] [(.ref a1)])) rfl rfl (hb hby d22_1)
  refine Go.step st3 ?_
  show Go p e below _ (T3.setTop (mkF m 4 #[.val (.ref a1), .val (.int (1 : Int32))] [(.ref o_el)]))
  refine Go.step (fun t k => XS.iloadN X3.here hx rfl (hb hby d22_4) rfl k) ?_
  show Go p e below _ (T3.setTop (mkF m 5 #[.val (.ref a1), .val (.int (1 : Int32))] [(.int (1 : Int32)), (.ref o_el)]))
  refine Go.step (ldR X3 hx hZ e3 A_o_el.ary rfl (j := (1 : Int32)) (by decide) (by decide) (g := (mkF m 5 #[.val (.ref a1), .val (.int (1 : Int32))] [(.int (1 : Int32)), (.ref o_el)])) rfl rfl (hb hby d22_5)) ?_
  show Go p e below _ (T3.setTop (mkF m 6 #[.val (.ref a1), .val (.int (1 : Int32))] [(.ref y1)]))
  exact retGR X3 hx Bd.notSynchronized Bd.returns rfl rfl (hb hby d22_6) ⟨rfl, N0, e3⟩ (by decide) (by decide)
theorem ef_19_3_1 (m : MethodId) (a1 : Addr) : entryFrame m #[(.ref a1), (.int (1 : Int32))] 2 = mkF m 0 #[.val (.ref a1), .val (.int (1 : Int32))] [] := by first | (simp [entryFrame, mkF, argsToLocals, Value.category]; done) | rfl
set_option maxRecDepth 65536 in
set_option maxHeartbeats 40000000 in
theorem rm19_3_1 (l : Launch) (Z : State) (a0 : Array Value) (hw : ∀ d ∈ tables_1, d.before a0 Z = true) (ws : List Jvm.Cond) (a1 : Addr) (o_el : Addr) (y0 : Addr) (y1 : Addr) (y2 : Addr) (h0 : Heap) (n0 : Nat) (Z0 : n0 ≤ h0.size) (F_elementData_a1 : Fld Z h0 a1 "java/util/ArrayList" "elementData" "[Ljava/lang/Object;" (.ref o_el)) (A_o_el : RAry Z h0 o_el (.object "java/lang/Object") "java/lang/Object" 10 (upA (upA (upA (fun _ => .null) 0 (.ref y0)) 1 (.ref y1)) 2 (.ref y2))) (E_a1 : Exa Z h0 a1 "java/util/ArrayList") (F_size_a1 : Fld Z h0 a1 "java/util/ArrayList" "size" "I" (.int (3 : Int32))) :
    MetFree l (⟨"java/util/ArrayList", "get", "(I)Ljava/lang/Object;"⟩ : MethodName) (head1 (Jvm.Cond.code (⟨"java/util/ArrayList", "get", "(I)Ljava/lang/Object;"⟩ : MethodName) jdk_38_method_20_code 2 (some (.object "java/lang/Object")) :: ws) ({ frames := 2, cells := 0, slots := 0, locals := 27 } : Room)) (fun a U => a = #[(.ref a1), (.int (1 : Int32))] ∧ Z.Warmed39 U.vm ∧ U.heap = h0) (fun _ _ _ _ _ => True) (fun _ U o U' => ∃ v L, o = .returned v ∧ QP (.ref y1) h0 n0 v U'.heap L ∧ FrameEnd U o U' L ({ frames := 2, cells := 0, slots := 0, locals := 27 } : Room).cells ({ frames := 2, cells := 0, slots := 0, locals := 27 } : Room).slots) := by
  refine MetFree.of_bodySF (plainFor_of_name pn_4) hisR ?_
  intro p e s m args below meth c s₁ Bd hml0 hP hK
  obtain ⟨rfl, hZ, hh⟩ := hP
  have hx := Bd.exec
  have hby := Bd.bytes
  have hml : c.maxLocals = 2 := hml0
  have hown : s.vm.findClass "java/util/ArrayList" = some m.cls := findClass_of_methodNamed Bd.named
  have hnm := (name_of_methodNamed Bd.named Bd.method).1
  have X0 : Stand p l e ({ frames := 2, cells := 0, slots := 0, locals := 27 } : Room) s m #[(.ref a1), (.int (1 : Int32))] below meth c s₁ [] 0 0 := Stand.of_body Bd
  have e0 : s₁.heap = h0 := by rw [← hh, Bd.state]; rfl
  have N0 := Fr.nil n0
  refine Go.done (Go.step (fun t k => castTop (ef_19_3_1 m a1) k) ?_)
  have KK0 : Keep h0 h0 [] := Keep.refl _ _
  show Go p e below _ (s₁.setTop (mkF m 0 #[.val (.ref a1), .val (.int (1 : Int32))] []))
  refine Go.step (fun t k => XS.iloadN X0.here hx rfl (hb hby d19_0) rfl k) ?_
  show Go p e below _ (s₁.setTop (mkF m 1 #[.val (.ref a1), .val (.int (1 : Int32))] [(.int (1 : Int32))]))
  refine Go.step (fun t k => XS.aloadN X0.here hx rfl (hb hby d19_1) rfl rfl k) ?_
  show Go p e below _ (s₁.setTop (mkF m 2 #[.val (.ref a1), .val (.int (1 : Int32))] [(.ref a1), (.int (1 : Int32))]))
  obtain ⟨T3, X3, e3, st3⟩ := getF X0 hx hZ hown (host := "") (Or.inl (hw _ (List.mem_of_getElem? (i := 79) rfl))) Via.refl e0 F_size_a1 (g := (mkF m 2 #[.val (.ref a1), .val (.int (1 : Int32))] [(.ref a1), (.int (1 : Int32))])) rfl rfl (hb hby d19_2)
  refine Go.step st3 ?_
  show Go p e below _ (T3.setTop (mkF m 5 #[.val (.ref a1), .val (.int (1 : Int32))] [(.int (3 : Int32)), (.int (1 : Int32))]))
  obtain ⟨_, _, ⟨T4, L4, k4, n4⟩, -, X4, ⟨Lc4, hQ4, l4, y4, z4⟩, st4⟩ := Jvm.LawKit.callS X3 hx (y := (⟨"java/util/Objects", "checkIndex", "(II)I"⟩ : MethodName)) hown (mvT hZ (hw _ (List.mem_of_getElem? (i := 138) rfl))) (mvT hZ (hw _ (List.mem_of_getElem? (i := 139) rfl))) (mvT hZ (hw _ (List.mem_of_getElem? (i := 140) rfl))) (mvT hZ (hw _ (List.mem_of_getElem? (i := 141) rfl))) (by decide) (backOf (W := 0) (rm20 l Z a0 hw [] (1 : Int32) (3 : Int32) h0 n0 Z0 (by decide : ¬ ((1 : Int32) < (0 : Int32))) (by decide : (1 : Int32) < (3 : Int32))) hZ (hw _ (List.mem_of_getElem? (i := 141) rfl)) (hw _ (List.mem_of_getElem? (i := 140) rfl)) (by decide) (by decide)) (g := (mkF m 5 #[.val (.ref a1), .val (.int (1 : Int32))] [(.int (3 : Int32)), (.int (1 : Int32))])) rfl (by rw [hml]; rfl) (argsL := [(.int (1 : Int32)), (.int (3 : Int32))]) (rest := []) (lenOf pd_4 rfl) rfl (by show 2 * 0 + _ ≤ _; exact Nat.le_of_eq rfl) (hb hby d19_5) (fun _ _ => ⟨rfl, e3, (by decide : 0 + 0 ≤ _), (by decide : 0 + 0 ≤ _)⟩)
  dsimp only [Pt.U, Pt.locs, Pt.cells, Pt.slots] at X4 l4 y4 z4 st4 hQ4
  subst l4 y4 z4
  obtain ⟨rfl, N4q, e4⟩ := hQ4
  have N4 := Fr.app N0 N4q
  refine Go.step st4 ?_
  show Go p e below _ (T4.setTop (mkF m 8 #[.val (.ref a1), .val (.int (1 : Int32))] [(.int (f20 (1 : Int32) (3 : Int32)))]))
  refine Go.step (fun t k => XS.pop X4.here hx rfl (hb hby d19_8) rfl rfl k) ?_
  show Go p e below _ (T4.setTop (mkF m 9 #[.val (.ref a1), .val (.int (1 : Int32))] []))
  refine Go.step (fun t k => XS.aloadN X4.here hx rfl (hb hby d19_9) rfl rfl k) ?_
  show Go p e below _ (T4.setTop (mkF m 10 #[.val (.ref a1), .val (.int (1 : Int32))] [(.ref a1)]))
  refine Go.step (fun t k => XS.iloadN X4.here hx rfl (hb hby d19_10) rfl k) ?_
  show Go p e below _ (T4.setTop (mkF m 11 #[.val (.ref a1), .val (.int (1 : Int32))] [(.int (1 : Int32)), (.ref a1)]))
  obtain ⟨cq5, kq5, q5a, q5b, q5c⟩ := isOf hZ e4 E_a1
  obtain ⟨_, _, ⟨T5, L5, k5, n5⟩, -, X5, ⟨Lc5, hQ5, l5, y5, z5⟩, st5⟩ := X4.virtualBack hx (y := (⟨"java/util/ArrayList", "elementData", "(I)Ljava/lang/Object;"⟩ : MethodName)) (z := (⟨"java/util/ArrayList", "elementData", "(I)Ljava/lang/Object;"⟩ : MethodName)) hown (mvT hZ (hw _ (List.mem_of_getElem? (i := 146) rfl))) (mvT hZ (hw _ (List.mem_of_getElem? (i := 147) rfl))) (notFace_of_selects (args := #[]) (mvT hZ (hw _ (List.mem_of_getElem? (i := 149) rfl)))) (mvT hZ (hw _ (List.mem_of_getElem? (i := 149) rfl))) (mvT hZ (hw _ (List.mem_of_getElem? (i := 148) rfl))) (by decide) (backOf (W := 0) (rm22_3_1 l Z a0 hw [] a1 o_el y0 y1 y2 h0 n0 Z0 F_elementData_a1 A_o_el) hZ (hw _ (List.mem_of_getElem? (i := 150) rfl)) (hw _ (List.mem_of_getElem? (i := 35) rfl)) (by decide) (by decide)) q5a q5c (g := (mkF m 11 #[.val (.ref a1), .val (.int (1 : Int32))] [(.int (1 : Int32)), (.ref a1)])) rfl (by rw [hml]; rfl) (Steps.refl _) (argsL := [(.int (1 : Int32))]) (rest := []) (lenOf pd_10 rfl) rfl (by show 2 * 0 + _ ≤ _; exact Nat.le_of_eq rfl) (hb hby d19_11) (fun _ _ => ⟨rfl, e4, (by decide : 0 + 0 ≤ _), (by decide : 0 + 0 ≤ _)⟩)
  dsimp only [Pt.U, Pt.locs, Pt.cells, Pt.slots] at X5 l5 y5 z5 st5 hQ5
  subst l5 y5 z5
  obtain ⟨rfl, N5q, e5⟩ := hQ5
  have N5 := Fr.app N4 N5q
  refine Go.trans st5 ?_
  show Go p e below _ (T5.setTop (mkF m 14 #[.val (.ref a1), .val (.int (1 : Int32))] [(.ref y1)]))
  exact retGR X5 hx Bd.notSynchronized Bd.returns rfl rfl (hb hby d19_14) ⟨rfl, N5, e5⟩ (by decide) (by decide)
theorem ef_22_3_2 (m : MethodId) (a1 : Addr) : entryFrame m #[(.ref a1), (.int (2 : Int32))] 2 = mkF m 0 #[.val (.ref a1), .val (.int (2 : Int32))] [] := by first | (simp [entryFrame, mkF, argsToLocals, Value.category]; done) | rfl
set_option maxRecDepth 65536 in
set_option maxHeartbeats 40000000 in
theorem rm22_3_2 (l : Launch) (Z : State) (a0 : Array Value) (hw : ∀ d ∈ tables_1, d.before a0 Z = true) (ws : List Jvm.Cond) (a1 : Addr) (o_el : Addr) (y0 : Addr) (y1 : Addr) (y2 : Addr) (h0 : Heap) (n0 : Nat) (Z0 : n0 ≤ h0.size) (F_elementData_a1 : Fld Z h0 a1 "java/util/ArrayList" "elementData" "[Ljava/lang/Object;" (.ref o_el)) (A_o_el : RAry Z h0 o_el (.object "java/lang/Object") "java/lang/Object" 10 (upA (upA (upA (fun _ => .null) 0 (.ref y0)) 1 (.ref y1)) 2 (.ref y2))) :
    MetFree l (⟨"java/util/ArrayList", "elementData", "(I)Ljava/lang/Object;"⟩ : MethodName) (head1 (Jvm.Cond.code (⟨"java/util/ArrayList", "elementData", "(I)Ljava/lang/Object;"⟩ : MethodName) jdk_38_method_18_code 2 (some (.object "java/lang/Object")) :: ws) ({ frames := 0, cells := 0, slots := 0, locals := 0 } : Room)) (fun a U => a = #[(.ref a1), (.int (2 : Int32))] ∧ Z.Warmed39 U.vm ∧ U.heap = h0) (fun _ _ _ _ _ => True) (fun _ U o U' => ∃ v L, o = .returned v ∧ QP (.ref y2) h0 n0 v U'.heap L ∧ FrameEnd U o U' L ({ frames := 0, cells := 0, slots := 0, locals := 0 } : Room).cells ({ frames := 0, cells := 0, slots := 0, locals := 0 } : Room).slots) := by
  refine MetFree.of_bodySF (plainFor_of_name pn_4) hisR ?_
  intro p e s m args below meth c s₁ Bd hml0 hP hK
  obtain ⟨rfl, hZ, hh⟩ := hP
  have hx := Bd.exec
  have hby := Bd.bytes
  have hml : c.maxLocals = 2 := hml0
  have hown : s.vm.findClass "java/util/ArrayList" = some m.cls := findClass_of_methodNamed Bd.named
  have hnm := (name_of_methodNamed Bd.named Bd.method).1
  have X0 : Stand p l e ({ frames := 0, cells := 0, slots := 0, locals := 0 } : Room) s m #[(.ref a1), (.int (2 : Int32))] below meth c s₁ [] 0 0 := Stand.of_body Bd
  have e0 : s₁.heap = h0 := by rw [← hh, Bd.state]; rfl
  have N0 := Fr.nil n0
  refine Go.done (Go.step (fun t k => castTop (ef_22_3_2 m a1) k) ?_)
  have KK0 : Keep h0 h0 [] := Keep.refl _ _
  show Go p e below _ (s₁.setTop (mkF m 0 #[.val (.ref a1), .val (.int (2 : Int32))] []))
  refine Go.step (fun t k => XS.aloadN X0.here hx rfl (hb hby d22_0) rfl rfl k) ?_
  show Go p e below _ (s₁.setTop (mkF m 1 #[.val (.ref a1), .val (.int (2 : Int32))] [(.ref a1)]))
  obtain ⟨T3, X3, e3, st3⟩ := getF X0 hx hZ hown (host := "") (Or.inl (hw _ (List.mem_of_getElem? (i := 55) rfl))) Via.refl e0 F_elementData_a1 (g := (mkF m 1 #[.val (.ref a1), .val (.int (2 : Int32))] [(.ref a1)])) rfl rfl (hb hby d22_1)
  refine Go.step st3 ?_
  show Go p e below _ (T3.setTop (mkF m 4 #[.val (.ref a1), .val (.int (2 : Int32))] [(.ref o_el)]))
  refine Go.step (fun t k => XS.iloadN X3.here hx rfl (hb hby d22_4) rfl k) ?_
  show Go p e below _ (T3.setTop (mkF m 5 #[.val (.ref a1), .val (.int (2 : Int32))] [(.int (2 : Int32)), (.ref o_el)]))
  refine Go.step (ldR X3 hx hZ e3 A_o_el.ary rfl (j := (2 : Int32)) (by decide) (by decide) (g := (mkF m 5 #[.val (.ref a1), .val (.int (2 : Int32))] [(.int (2 : Int32)), (.ref o_el)])) rfl rfl (hb hby d22_5)) ?_
  show Go p e below _ (T3.setTop (mkF m 6 #[.val (.ref a1), .val (.int (2 : Int32))] [(.ref y2)]))
  exact retGR X3 hx Bd.notSynchronized Bd.returns rfl rfl (hb hby d22_6) ⟨rfl, N0, e3⟩ (by decide) (by decide)
theorem ef_19_3_2 (m : MethodId) (a1 : Addr) : entryFrame m #[(.ref a1), (.int (2 : Int32))] 2 = mkF m 0 #[.val (.ref a1), .val (.int (2 : Int32))] [] := by first | (simp [entryFrame, mkF, argsToLocals, Value.category]; done) | rfl
set_option maxRecDepth 65536 in
set_option maxHeartbeats 40000000 in
theorem rm19_3_2 (l : Launch) (Z : State) (a0 : Array Value) (hw : ∀ d ∈ tables_1, d.before a0 Z = true) (ws : List Jvm.Cond) (a1 : Addr) (o_el : Addr) (y0 : Addr) (y1 : Addr) (y2 : Addr) (h0 : Heap) (n0 : Nat) (Z0 : n0 ≤ h0.size) (F_elementData_a1 : Fld Z h0 a1 "java/util/ArrayList" "elementData" "[Ljava/lang/Object;" (.ref o_el)) (A_o_el : RAry Z h0 o_el (.object "java/lang/Object") "java/lang/Object" 10 (upA (upA (upA (fun _ => .null) 0 (.ref y0)) 1 (.ref y1)) 2 (.ref y2))) (E_a1 : Exa Z h0 a1 "java/util/ArrayList") (F_size_a1 : Fld Z h0 a1 "java/util/ArrayList" "size" "I" (.int (3 : Int32))) :
    MetFree l (⟨"java/util/ArrayList", "get", "(I)Ljava/lang/Object;"⟩ : MethodName) (head1 (Jvm.Cond.code (⟨"java/util/ArrayList", "get", "(I)Ljava/lang/Object;"⟩ : MethodName) jdk_38_method_20_code 2 (some (.object "java/lang/Object")) :: ws) ({ frames := 2, cells := 0, slots := 0, locals := 27 } : Room)) (fun a U => a = #[(.ref a1), (.int (2 : Int32))] ∧ Z.Warmed39 U.vm ∧ U.heap = h0) (fun _ _ _ _ _ => True) (fun _ U o U' => ∃ v L, o = .returned v ∧ QP (.ref y2) h0 n0 v U'.heap L ∧ FrameEnd U o U' L ({ frames := 2, cells := 0, slots := 0, locals := 27 } : Room).cells ({ frames := 2, cells := 0, slots := 0, locals := 27 } : Room).slots) := by
  refine MetFree.of_bodySF (plainFor_of_name pn_4) hisR ?_
  intro p e s m args below meth c s₁ Bd hml0 hP hK
  obtain ⟨rfl, hZ, hh⟩ := hP
  have hx := Bd.exec
  have hby := Bd.bytes
  have hml : c.maxLocals = 2 := hml0
  have hown : s.vm.findClass "java/util/ArrayList" = some m.cls := findClass_of_methodNamed Bd.named
  have hnm := (name_of_methodNamed Bd.named Bd.method).1
  have X0 : Stand p l e ({ frames := 2, cells := 0, slots := 0, locals := 27 } : Room) s m #[(.ref a1), (.int (2 : Int32))] below meth c s₁ [] 0 0 := Stand.of_body Bd
  have e0 : s₁.heap = h0 := by rw [← hh, Bd.state]; rfl
  have N0 := Fr.nil n0
  refine Go.done (Go.step (fun t k => castTop (ef_19_3_2 m a1) k) ?_)
  have KK0 : Keep h0 h0 [] := Keep.refl _ _
  show Go p e below _ (s₁.setTop (mkF m 0 #[.val (.ref a1), .val (.int (2 : Int32))] []))
  refine Go.step (fun t k => XS.iloadN X0.here hx rfl (hb hby d19_0) rfl k) ?_
  show Go p e below _ (s₁.setTop (mkF m 1 #[.val (.ref a1), .val (.int (2 : Int32))] [(.int (2 : Int32))]))
  refine Go.step (fun t k => XS.aloadN X0.here hx rfl (hb hby d19_1) rfl rfl k) ?_
  show Go p e below _ (s₁.setTop (mkF m 2 #[.val (.ref a1), .val (.int (2 : Int32))] [(.ref a1), (.int (2 : Int32))]))
  obtain ⟨T3, X3, e3, st3⟩ := getF X0 hx hZ hown (host := "") (Or.inl (hw _ (List.mem_of_getElem? (i := 79) rfl))) Via.refl e0 F_size_a1 (g := (mkF m 2 #[.val (.ref a1), .val (.int (2 : Int32))] [(.ref a1), (.int (2 : Int32))])) rfl rfl (hb hby d19_2)
  refine Go.step st3 ?_
  show Go p e below _ (T3.setTop (mkF m 5 #[.val (.ref a1), .val (.int (2 : Int32))] [(.int (3 : Int32)), (.int (2 : Int32))]))
  obtain ⟨_, _, ⟨T4, L4, k4, n4⟩, -, X4, ⟨Lc4, hQ4, l4, y4, z4⟩, st4⟩ := Jvm.LawKit.callS X3 hx (y := (⟨"java/util/Objects", "checkIndex", "(II)I"⟩ : MethodName)) hown (mvT hZ (hw _ (List.mem_of_getElem? (i := 138) rfl))) (mvT hZ (hw _ (List.mem_of_getElem? (i := 139) rfl))) (mvT hZ (hw _ (List.mem_of_getElem? (i := 140) rfl))) (mvT hZ (hw _ (List.mem_of_getElem? (i := 141) rfl))) (by decide) (backOf (W := 0) (rm20 l Z a0 hw [] (2 : Int32) (3 : Int32) h0 n0 Z0 (by decide : ¬ ((2 : Int32) < (0 : Int32))) (by decide : (2 : Int32) < (3 : Int32))) hZ (hw _ (List.mem_of_getElem? (i := 141) rfl)) (hw _ (List.mem_of_getElem? (i := 140) rfl)) (by decide) (by decide)) (g := (mkF m 5 #[.val (.ref a1), .val (.int (2 : Int32))] [(.int (3 : Int32)), (.int (2 : Int32))])) rfl (by rw [hml]; rfl) (argsL := [(.int (2 : Int32)), (.int (3 : Int32))]) (rest := []) (lenOf pd_4 rfl) rfl (by show 2 * 0 + _ ≤ _; exact Nat.le_of_eq rfl) (hb hby d19_5) (fun _ _ => ⟨rfl, e3, (by decide : 0 + 0 ≤ _), (by decide : 0 + 0 ≤ _)⟩)
  dsimp only [Pt.U, Pt.locs, Pt.cells, Pt.slots] at X4 l4 y4 z4 st4 hQ4
  subst l4 y4 z4
  obtain ⟨rfl, N4q, e4⟩ := hQ4
  have N4 := Fr.app N0 N4q
  refine Go.step st4 ?_
  show Go p e below _ (T4.setTop (mkF m 8 #[.val (.ref a1), .val (.int (2 : Int32))] [(.int (f20 (2 : Int32) (3 : Int32)))]))
  refine Go.step (fun t k => XS.pop X4.here hx rfl (hb hby d19_8) rfl rfl k) ?_
  show Go p e below _ (T4.setTop (mkF m 9 #[.val (.ref a1), .val (.int (2 : Int32))] []))
  refine Go.step (fun t k => XS.aloadN X4.here hx rfl (hb hby d19_9) rfl rfl k) ?_
  show Go p e below _ (T4.setTop (mkF m 10 #[.val (.ref a1), .val (.int (2 : Int32))] [(.ref a1)]))
  refine Go.step (fun t k => XS.iloadN X4.here hx rfl (hb hby d19_10) rfl k) ?_
  show Go p e below _ (T4.setTop (mkF m 11 #[.val (.ref a1), .val (.int (2 : Int32))] [(.int (2 : Int32)), (.ref a1)]))
  obtain ⟨cq5, kq5, q5a, q5b, q5c⟩ := isOf hZ e4 E_a1
  obtain ⟨_, _, ⟨T5, L5, k5, n5⟩, -, X5, ⟨Lc5, hQ5, l5, y5, z5⟩, st5⟩ := X4.virtualBack hx (y := (⟨"java/util/ArrayList", "elementData", "(I)Ljava/lang/Object;"⟩ : MethodName)) (z := (⟨"java/util/ArrayList", "elementData", "(I)Ljava/lang/Object;"⟩ : MethodName)) hown (mvT hZ (hw _ (List.mem_of_getElem? (i := 146) rfl))) (mvT hZ (hw _ (List.mem_of_getElem? (i := 147) rfl))) (notFace_of_selects (args := #[]) (mvT hZ (hw _ (List.mem_of_getElem? (i := 149) rfl)))) (mvT hZ (hw _ (List.mem_of_getElem? (i := 149) rfl))) (mvT hZ (hw _ (List.mem_of_getElem? (i := 148) rfl))) (by decide) (backOf (W := 0) (rm22_3_2 l Z a0 hw [] a1 o_el y0 y1 y2 h0 n0 Z0 F_elementData_a1 A_o_el) hZ (hw _ (List.mem_of_getElem? (i := 150) rfl)) (hw _ (List.mem_of_getElem? (i := 35) rfl)) (by decide) (by decide)) q5a q5c (g := (mkF m 11 #[.val (.ref a1), .val (.int (2 : Int32))] [(.int (2 : Int32)), (.ref a1)])) rfl (by rw [hml]; rfl) (Steps.refl _) (argsL := [(.int (2 : Int32))]) (rest := []) (lenOf pd_10 rfl) rfl (by show 2 * 0 + _ ≤ _; exact Nat.le_of_eq rfl) (hb hby d19_11) (fun _ _ => ⟨rfl, e4, (by decide : 0 + 0 ≤ _), (by decide : 0 + 0 ≤ _)⟩)
  dsimp only [Pt.U, Pt.locs, Pt.cells, Pt.slots] at X5 l5 y5 z5 st5 hQ5
  subst l5 y5 z5
  obtain ⟨rfl, N5q, e5⟩ := hQ5
  have N5 := Fr.app N4 N5q
  refine Go.trans st5 ?_
  show Go p e below _ (T5.setTop (mkF m 14 #[.val (.ref a1), .val (.int (2 : Int32))] [(.ref y2)]))
  exact retGR X5 hx Bd.notSynchronized Bd.returns rfl rfl (hb hby d19_14) ⟨rfl, N5, e5⟩ (by decide) (by decide)
theorem d6_0 : decode prog_109_method_1_code 0 = .ok (.aload_n 0, 1) := by decide +kernel
theorem d6_1 : decode prog_109_method_1_code 1 = .ok (.invokespecial 1, 3) := by decide +kernel
theorem d6_4 : decode prog_109_method_1_code 4 = .ok (.aload_n 0, 1) := by decide +kernel
theorem d6_5 : decode prog_109_method_1_code 5 = .ok (.new 7, 3) := by decide +kernel
theorem d6_8 : decode prog_109_method_1_code 8 = .ok (.dup, 1) := by decide +kernel
theorem d6_9 : decode prog_109_method_1_code 9 = .ok (.invokespecial 9, 3) := by decide +kernel
theorem d6_12 : decode prog_109_method_1_code 12 = .ok (.putfield 10, 3) := by decide +kernel
theorem d6_15 : decode prog_109_method_1_code 15 = .ok (.aload_n 0, 1) := by decide +kernel
theorem d6_16 : decode prog_109_method_1_code 16 = .ok (.new 7, 3) := by decide +kernel
theorem d6_19 : decode prog_109_method_1_code 19 = .ok (.dup, 1) := by decide +kernel
theorem d6_20 : decode prog_109_method_1_code 20 = .ok (.invokespecial 9, 3) := by decide +kernel
theorem d6_23 : decode prog_109_method_1_code 23 = .ok (.putfield 16, 3) := by decide +kernel
theorem d6_26 : decode prog_109_method_1_code 26 = .ok (.aload_n 0, 1) := by decide +kernel
theorem d6_27 : decode prog_109_method_1_code 27 = .ok (.aload_n 1, 1) := by decide +kernel
theorem d6_28 : decode prog_109_method_1_code 28 = .ok (.putfield 19, 3) := by decide +kernel
theorem d6_31 : decode prog_109_method_1_code 31 = .ok (.return_, 1) := by decide +kernel
theorem ef_6 (m : MethodId) (a1 : Addr) (a2 : Addr) : entryFrame m #[(.ref a1), (.ref a2)] 2 = mkF m 0 #[.val (.ref a1), .val (.ref a2)] [] := by first | (simp [entryFrame, mkF, argsToLocals, Value.category]; done) | rfl
def Q6 (Z : State) (a1 : Addr) (a2 : Addr) (u_parent_a1 : Value) (u_previous_a1 : Value) (u_next_a1 : Value) (u_firstChild_a1 : Value) (u_lastChild_a1 : Value) (u_attributes_a1 : Value) (u_texts_a1 : Value) (u_name_a1 : Value) (oD : Addr) (h0 : Heap) (n0 : Nat) (v : Option Value) (h : Heap) (L : List Loc) : Prop := v = none ∧ Fr n0 L ∧ Keep h0 h [a1] ∧ Fld Z h a1 "com/example/dataflow_to_dispatch/dataflowtodispatch/model/document/XmlElement" "parent" "Lcom/example/dataflow_to_dispatch/dataflowtodispatch/model/document/XmlElement;" u_parent_a1 ∧ Fld Z h a1 "com/example/dataflow_to_dispatch/dataflowtodispatch/model/document/XmlElement" "previous" "Lcom/example/dataflow_to_dispatch/dataflowtodispatch/model/document/XmlElement;" u_previous_a1 ∧ Fld Z h a1 "com/example/dataflow_to_dispatch/dataflowtodispatch/model/document/XmlElement" "next" "Lcom/example/dataflow_to_dispatch/dataflowtodispatch/model/document/XmlElement;" u_next_a1 ∧ Fld Z h a1 "com/example/dataflow_to_dispatch/dataflowtodispatch/model/document/XmlElement" "firstChild" "Lcom/example/dataflow_to_dispatch/dataflowtodispatch/model/document/XmlElement;" u_firstChild_a1 ∧ Fld Z h a1 "com/example/dataflow_to_dispatch/dataflowtodispatch/model/document/XmlElement" "lastChild" "Lcom/example/dataflow_to_dispatch/dataflowtodispatch/model/document/XmlElement;" u_lastChild_a1 ∧ Exa Z h a1 "com/example/dataflow_to_dispatch/dataflowtodispatch/model/document/XmlElement" ∧ Fld Z h a1 "com/example/dataflow_to_dispatch/dataflowtodispatch/model/document/XmlElement" "name" "Ljava/lang/String;" (.ref a2)
set_option maxRecDepth 65536 in
set_option maxHeartbeats 40000000 in
theorem rm6 (l : Launch) (Z : State) (a0 : Array Value) (hw : ∀ d ∈ tables_1, d.before a0 Z = true) (ws : List Jvm.Cond) (a1 : Addr) (a2 : Addr) (u_parent_a1 : Value) (u_previous_a1 : Value) (u_next_a1 : Value) (u_firstChild_a1 : Value) (u_lastChild_a1 : Value) (u_attributes_a1 : Value) (u_texts_a1 : Value) (u_name_a1 : Value) (oD : Addr) (h0 : Heap) (n0 : Nat) (Z0 : n0 ≤ h0.size) (F_parent_a1 : Fld Z h0 a1 "com/example/dataflow_to_dispatch/dataflowtodispatch/model/document/XmlElement" "parent" "Lcom/example/dataflow_to_dispatch/dataflowtodispatch/model/document/XmlElement;" u_parent_a1) (F_previous_a1 : Fld Z h0 a1 "com/example/dataflow_to_dispatch/dataflowtodispatch/model/document/XmlElement" "previous" "Lcom/example/dataflow_to_dispatch/dataflowtodispatch/model/document/XmlElement;" u_previous_a1) (F_next_a1 : Fld Z h0 a1 "com/example/dataflow_to_dispatch/dataflowtodispatch/model/document/XmlElement" "next" "Lcom/example/dataflow_to_dispatch/dataflowtodispatch/model/document/XmlElement;" u_next_a1) (F_firstChild_a1 : Fld Z h0 a1 "com/example/dataflow_to_dispatch/dataflowtodispatch/model/document/XmlElement" "firstChild" "Lcom/example/dataflow_to_dispatch/dataflowtodispatch/model/document/XmlElement;" u_firstChild_a1) (F_lastChild_a1 : Fld Z h0 a1 "com/example/dataflow_to_dispatch/dataflowtodispatch/model/document/XmlElement" "lastChild" "Lcom/example/dataflow_to_dispatch/dataflowtodispatch/model/document/XmlElement;" u_lastChild_a1) (hO : Old Z n0 h0) (E_a1 : Exa Z h0 a1 "com/example/dataflow_to_dispatch/dataflowtodispatch/model/document/XmlElement") (F_attributes_a1 : Fld Z h0 a1 "com/example/dataflow_to_dispatch/dataflowtodispatch/model/document/XmlElement" "attributes" "Ljava/util/List;" u_attributes_a1) (F_texts_a1 : Fld Z h0 a1 "com/example/dataflow_to_dispatch/dataflowtodispatch/model/document/XmlElement" "texts" "Ljava/util/List;" u_texts_a1) (F_name_a1 : Fld Z h0 a1 "com/example/dataflow_to_dispatch/dataflowtodispatch/model/document/XmlElement" "name" "Ljava/lang/String;" u_name_a1) (S_DEFAULTCAPACITY_EMPTY_ELEMENTDATA : Sta Z Z.heap "java/util/ArrayList" "DEFAULTCAPACITY_EMPTY_ELEMENTDATA" "[Ljava/lang/Object;" (.ref oD)) (A_DEFAULTCAPACITY_EMPTY_ELEMENTDATA : Ary Z Z.heap oD (.object "java/lang/Object") 0 (fun _ => Value.null)) (g_a1 : n0 ≤ a1) :
    MetFree l (⟨"com/example/dataflow_to_dispatch/dataflowtodispatch/model/document/XmlElement", "<init>", "(Ljava/lang/String;)V"⟩ : MethodName) (head1 (Jvm.Cond.code (⟨"com/example/dataflow_to_dispatch/dataflowtodispatch/model/document/XmlElement", "<init>", "(Ljava/lang/String;)V"⟩ : MethodName) prog_109_method_1_code 2 none :: ws) ({ frames := 4, cells := 2, slots := 6, locals := 50 } : Room)) (fun a U => a = #[(.ref a1), (.ref a2)] ∧ Z.Warmed39 U.vm ∧ U.heap = h0) (fun _ _ _ _ _ => True) (fun _ U o U' => ∃ v L, o = .returned v ∧ Q6 Z a1 a2 u_parent_a1 u_previous_a1 u_next_a1 u_firstChild_a1 u_lastChild_a1 u_attributes_a1 u_texts_a1 u_name_a1 oD h0 n0 v U'.heap L ∧ FrameEnd U o U' L ({ frames := 4, cells := 2, slots := 6, locals := 50 } : Room).cells ({ frames := 4, cells := 2, slots := 6, locals := 50 } : Room).slots) := by
  refine MetFree.of_bodySF (plainFor_of_name pn_5) hisR ?_
  intro p e s m args below meth c s₁ Bd hml0 hP hK
  obtain ⟨rfl, hZ, hh⟩ := hP
  have hx := Bd.exec
  have hby := Bd.bytes
  have hml : c.maxLocals = 2 := hml0
  have hown : s.vm.findClass "com/example/dataflow_to_dispatch/dataflowtodispatch/model/document/XmlElement" = some m.cls := findClass_of_methodNamed Bd.named
  have hnm := (name_of_methodNamed Bd.named Bd.method).1
  have X0 : Stand p l e ({ frames := 4, cells := 2, slots := 6, locals := 50 } : Room) s m #[(.ref a1), (.ref a2)] below meth c s₁ [] 0 0 := Stand.of_body Bd
  have e0 : s₁.heap = h0 := by rw [← hh, Bd.state]; rfl
  have N0 := Fr.nil n0
  refine Go.done (Go.step (fun t k => castTop (ef_6 m a1 a2) k) ?_)
  have KK0 : Keep h0 h0 [a1] := Keep.refl _ _
  show Go p e below _ (s₁.setTop (mkF m 0 #[.val (.ref a1), .val (.ref a2)] []))
  refine Go.step (fun t k => XS.aloadN X0.here hx rfl (hb hby d6_0) rfl rfl k) ?_
  show Go p e below _ (s₁.setTop (mkF m 1 #[.val (.ref a1), .val (.ref a2)] [(.ref a1)]))
  obtain ⟨T3, X3, e3, st3⟩ := initO X0 hx hZ hown (hw _ (List.mem_of_getElem? (i := 32) rfl)) (hw _ (List.mem_of_getElem? (i := 23) rfl)) (hw _ (List.mem_of_getElem? (i := 24) rfl)) e0 (g := (mkF m 1 #[.val (.ref a1), .val (.ref a2)] [(.ref a1)])) rfl (by rw [hml]; rfl) rfl (hb hby d6_1) (by decide) (W := 0) (by show 2 * 0 + _ ≤ _; exact Nat.le_of_eq rfl) (by decide)
  refine Go.step st3 ?_
  show Go p e below _ (T3.setTop (mkF m 4 #[.val (.ref a1), .val (.ref a2)] []))
  refine Go.step (fun t k => XS.aloadN X3.here hx rfl (hb hby d6_4) rfl rfl k) ?_
  show Go p e below _ (T3.setTop (mkF m 5 #[.val (.ref a1), .val (.ref a2)] [(.ref a1)]))
  obtain ⟨T4, h4, X4, e4, E4, A4, D4, -, st4⟩ := newO X3 hx hZ hown (hw _ (List.mem_of_getElem? (i := 33) rfl)) (hw _ (List.mem_of_getElem? (i := 34) rfl)) (hw _ (List.mem_of_getElem? (i := 35) rfl)) e3 (g := (mkF m 5 #[.val (.ref a1), .val (.ref a2)] [(.ref a1)])) rfl (hb hby d6_5) (by decide) (by decide)
  obtain ⟨b4, g4⟩ : ∃ z, z = h0.size := ⟨_, rfl⟩
  rw [← g4] at A4 D4 st4
  have g_b4 : n0 ≤ b4 := Nat.le_trans Z0 (Nat.le_of_eq g4.symm)
  have sz_b4 : h0.size ≤ b4 := Nat.le_trans KK0.1 (Nat.le_of_eq g4.symm)
  have ne_a1_b4 : a1 ≠ b4 := Nat.ne_of_lt (Nat.lt_of_lt_of_le F_parent_a1.lt (Nat.le_of_eq g4.symm))
  refine Go.step st4 ?_
  have F_parent_a1_4 := F_parent_a1.ext E4
  have F_previous_a1_4 := F_previous_a1.ext E4
  have F_next_a1_4 := F_next_a1.ext E4
  have F_firstChild_a1_4 := F_firstChild_a1.ext E4
  have F_lastChild_a1_4 := F_lastChild_a1.ext E4
  have E_a1_4 := E_a1.ext E4
  have F_attributes_a1_4 := F_attributes_a1.ext E4
  have F_texts_a1_4 := F_texts_a1.ext E4
  have F_name_a1_4 := F_name_a1.ext E4
  have O4 := hO.ext E4
  have Z4 := Nat.le_trans Z0 E4.1
  have KK4 : Keep h0 h4 [a1] := KK0.ext E4
  clear F_parent_a1 F_previous_a1 F_next_a1 F_firstChild_a1 F_lastChild_a1 E_a1 F_attributes_a1 F_texts_a1 F_name_a1 hO Z0 KK0 E4
  have F_modCount_b4 : Fld Z h4 b4 "java/util/AbstractList" "modCount" "I" (.int (0 : Int32)) := D4 (Or.inl (hw _ (List.mem_of_getElem? (i := 53) rfl))) (ty := .int) (by decide)
  have F_elementData_b4 : Fld Z h4 b4 "java/util/ArrayList" "elementData" "[Ljava/lang/Object;" .null := D4 (Or.inl (hw _ (List.mem_of_getElem? (i := 56) rfl))) (ty := (.array (.object "java/lang/Object"))) (by decide)
  have F_size_b4 : Fld Z h4 b4 "java/util/ArrayList" "size" "I" (.int (0 : Int32)) := D4 (Or.inl (hw _ (List.mem_of_getElem? (i := 80) rfl))) (ty := .int) (by decide)
  show Go p e below _ (T4.setTop (mkF m 8 #[.val (.ref a1), .val (.ref a2)] [(.ref b4), (.ref a1)]))
  refine Go.step (fun t k => XS.dup X4.here hx rfl (hb hby d6_8) rfl rfl k) ?_
  show Go p e below _ (T4.setTop (mkF m 9 #[.val (.ref a1), .val (.ref a2)] [(.ref b4), (.ref b4), (.ref a1)]))
  obtain ⟨_, _, ⟨T5, L5, k5, n5⟩, -, X5, ⟨Lc5, hQ5, l5, y5, z5⟩, st5⟩ := X4.specialBack hx (y := (⟨"java/util/ArrayList", "<init>", "()V"⟩ : MethodName)) rfl hown (mvT hZ (hw _ (List.mem_of_getElem? (i := 36) rfl))) (mvT hZ (hw _ (List.mem_of_getElem? (i := 37) rfl))) (mvT hZ (hw _ (List.mem_of_getElem? (i := 38) rfl))) (by decide) (backOf (W := 2) (rm7 l Z a0 hw [] b4 (.int (0 : Int32)) .null (.int (0 : Int32)) oD h4 n0 Z4 A4 F_size_b4 O4 F_elementData_b4 F_modCount_b4 g_b4 S_DEFAULTCAPACITY_EMPTY_ELEMENTDATA A_DEFAULTCAPACITY_EMPTY_ELEMENTDATA) hZ (hw _ (List.mem_of_getElem? (i := 38) rfl)) (hw _ (List.mem_of_getElem? (i := 35) rfl)) (by decide) (by decide)) (g := (mkF m 9 #[.val (.ref a1), .val (.ref a2)] [(.ref b4), (.ref b4), (.ref a1)])) rfl (by rw [hml]; rfl) (Steps.refl _) (a := b4) (argsL := []) (rest := [(.ref b4), (.ref a1)]) (lenOf pd_3 rfl) rfl (by show 2 * 0 + _ ≤ _; exact Nat.le_of_eq rfl) (hb hby d6_9) (fun _ _ => ⟨rfl, e4, (by decide : 1 + 0 ≤ _), (by decide : 3 + 0 ≤ _)⟩)
  dsimp only [Pt.U, Pt.locs, Pt.cells, Pt.slots] at X5 l5 y5 z5 st5 hQ5
  subst l5 y5 z5
  obtain ⟨rfl, N5q, K5, Q5_0, Q5_1, Q5_2, Q5_3⟩ := hQ5
  have N5 := Fr.app N0 N5q
  have F_parent_a1_5 := F_parent_a1_4.keep K5 (ninS ne_a1_b4 nin0)
  have F_previous_a1_5 := F_previous_a1_4.keep K5 (ninS ne_a1_b4 nin0)
  have F_next_a1_5 := F_next_a1_4.keep K5 (ninS ne_a1_b4 nin0)
  have F_firstChild_a1_5 := F_firstChild_a1_4.keep K5 (ninS ne_a1_b4 nin0)
  have F_lastChild_a1_5 := F_lastChild_a1_4.keep K5 (ninS ne_a1_b4 nin0)
  have E_a1_5 := E_a1_4.keep K5
  have F_attributes_a1_5 := F_attributes_a1_4.keep K5 (ninS ne_a1_b4 nin0)
  have F_texts_a1_5 := F_texts_a1_4.keep K5 (ninS ne_a1_b4 nin0)
  have F_name_a1_5 := F_name_a1_4.keep K5 (ninS ne_a1_b4 nin0)
  have E_b4_5 := A4.keep K5
  have O5 := O4.keep K5 (allS g_b4 all0)
  have Z5 := Nat.le_trans Z4 K5.1
  have KK5 : Keep h0 T5.heap [a1] := KK4.trans K5 (allS (Or.inr sz_b4) all0)
  clear F_parent_a1_4 F_previous_a1_4 F_next_a1_4 F_firstChild_a1_4 F_lastChild_a1_4 E_a1_4 F_attributes_a1_4 F_texts_a1_4 F_name_a1_4 A4 O4 Z4 KK4 K5
  refine Go.trans st5 ?_
  show Go p e below _ (T5.setTop (mkF m 12 #[.val (.ref a1), .val (.ref a2)] [(.ref b4), (.ref a1)]))
  obtain ⟨T6, h6, X6, e6, W6, st6⟩ := putF X5 hx hZ hown (host := "") (Or.inl (hw _ (List.mem_of_getElem? (i := 57) rfl))) Via.refl rfl F_attributes_a1_5 E_a1_5 (Or.inr ⟨(hw _ (List.mem_of_getElem? (i := 58) rfl)), rfl, hnm⟩) (hw _ (List.mem_of_getElem? (i := 1) rfl)) (ty := (.object "java/util/List")) (by decide) rfl rfl (g := (mkF m 12 #[.val (.ref a1), .val (.ref a2)] [(.ref b4), (.ref a1)])) rfl rfl (hb hby d6_12)
  refine Go.step st6 ?_
  have N6 := Fr.snoc X6 N5 g_a1
  have F_parent_a1_6 := F_parent_a1_5.other W6 (Or.inr (slot_ne (Or.inl (hw _ (List.mem_of_getElem? (i := 93) rfl))) (Or.inr (hw _ (List.mem_of_getElem? (i := 58) rfl))) (by decide) (t := (.object "com/example/dataflow_to_dispatch/dataflowtodispatch/model/document/XmlElement")) (t' := (.object "java/util/List")) (by decide) (by decide)))
  have F_previous_a1_6 := F_previous_a1_5.other W6 (Or.inr (slot_ne (Or.inl (hw _ (List.mem_of_getElem? (i := 95) rfl))) (Or.inr (hw _ (List.mem_of_getElem? (i := 58) rfl))) (by decide) (t := (.object "com/example/dataflow_to_dispatch/dataflowtodispatch/model/document/XmlElement")) (t' := (.object "java/util/List")) (by decide) (by decide)))
  have F_next_a1_6 := F_next_a1_5.other W6 (Or.inr (slot_ne (Or.inl (hw _ (List.mem_of_getElem? (i := 97) rfl))) (Or.inr (hw _ (List.mem_of_getElem? (i := 58) rfl))) (by decide) (t := (.object "com/example/dataflow_to_dispatch/dataflowtodispatch/model/document/XmlElement")) (t' := (.object "java/util/List")) (by decide) (by decide)))
  have F_firstChild_a1_6 := F_firstChild_a1_5.other W6 (Or.inr (slot_ne (Or.inl (hw _ (List.mem_of_getElem? (i := 69) rfl))) (Or.inr (hw _ (List.mem_of_getElem? (i := 58) rfl))) (by decide) (t := (.object "com/example/dataflow_to_dispatch/dataflowtodispatch/model/document/XmlElement")) (t' := (.object "java/util/List")) (by decide) (by decide)))
  have F_lastChild_a1_6 := F_lastChild_a1_5.other W6 (Or.inr (slot_ne (Or.inl (hw _ (List.mem_of_getElem? (i := 87) rfl))) (Or.inr (hw _ (List.mem_of_getElem? (i := 58) rfl))) (by decide) (t := (.object "com/example/dataflow_to_dispatch/dataflowtodispatch/model/document/XmlElement")) (t' := (.object "java/util/List")) (by decide) (by decide)))
  have E_a1_6 := E_a1_5.wr W6
  have F_texts_a1_6 := F_texts_a1_5.other W6 (Or.inr (slot_ne (Or.inr (hw _ (List.mem_of_getElem? (i := 60) rfl))) (Or.inr (hw _ (List.mem_of_getElem? (i := 58) rfl))) (by decide) (t := (.object "java/util/List")) (t' := (.object "java/util/List")) (by decide) (by decide)))
  have F_name_a1_6 := F_name_a1_5.other W6 (Or.inr (slot_ne (Or.inr (hw _ (List.mem_of_getElem? (i := 62) rfl))) (Or.inr (hw _ (List.mem_of_getElem? (i := 58) rfl))) (by decide) (t := (.object "java/lang/String")) (t' := (.object "java/util/List")) (by decide) (by decide)))
  have E_b4_6 := Q5_0.wr W6
  have F_elementData_b4_6 := Q5_1.other W6 (Or.inl (Ne.symm ne_a1_b4))
  have F_size_b4_6 := Q5_2.other W6 (Or.inl (Ne.symm ne_a1_b4))
  have F_modCount_b4_6 := Q5_3.other W6 (Or.inl (Ne.symm ne_a1_b4))
  have O6 := O5.wr W6 g_a1
  have Z6 := Nat.le_trans Z5 (Keep.of_wr W6).1
  have KK6 : Keep h0 h6 [a1] := KK5.wr W6 (Or.inl (by simp))
  clear F_parent_a1_5 F_previous_a1_5 F_next_a1_5 F_firstChild_a1_5 F_lastChild_a1_5 E_a1_5 F_texts_a1_5 F_name_a1_5 Q5_0 Q5_1 Q5_2 Q5_3 O5 Z5 KK5
  have F_attributes_a1_6 := F_attributes_a1_5.same W6
  show Go p e below _ (T6.setTop (mkF m 15 #[.val (.ref a1), .val (.ref a2)] []))
  refine Go.step (fun t k => XS.aloadN X6.here hx rfl (hb hby d6_15) rfl rfl k) ?_
  show Go p e below _ (T6.setTop (mkF m 16 #[.val (.ref a1), .val (.ref a2)] [(.ref a1)]))
  obtain ⟨T7, h7, X7, e7, E7, A7, D7, -, st7⟩ := newO X6 hx hZ hown (hw _ (List.mem_of_getElem? (i := 33) rfl)) (hw _ (List.mem_of_getElem? (i := 34) rfl)) (hw _ (List.mem_of_getElem? (i := 35) rfl)) e6 (g := (mkF m 16 #[.val (.ref a1), .val (.ref a2)] [(.ref a1)])) rfl (hb hby d6_16) (by decide) (by decide)
  obtain ⟨b7, g7⟩ : ∃ z, z = h6.size := ⟨_, rfl⟩
  rw [← g7] at A7 D7 st7
  have g_b7 : n0 ≤ b7 := Nat.le_trans Z6 (Nat.le_of_eq g7.symm)
  have sz_b7 : h0.size ≤ b7 := Nat.le_trans KK6.1 (Nat.le_of_eq g7.symm)
  have ne_a1_b7 : a1 ≠ b7 := Nat.ne_of_lt (Nat.lt_of_lt_of_le F_parent_a1_6.lt (Nat.le_of_eq g7.symm))
  have ne_b4_b7 : b4 ≠ b7 := Nat.ne_of_lt (Nat.lt_of_lt_of_le E_b4_6.lt (Nat.le_of_eq g7.symm))
  refine Go.step st7 ?_
  have F_parent_a1_7 := F_parent_a1_6.ext E7
  have F_previous_a1_7 := F_previous_a1_6.ext E7
  have F_next_a1_7 := F_next_a1_6.ext E7
  have F_firstChild_a1_7 := F_firstChild_a1_6.ext E7
  have F_lastChild_a1_7 := F_lastChild_a1_6.ext E7
  have E_a1_7 := E_a1_6.ext E7
  have F_attributes_a1_7 := F_attributes_a1_6.ext E7
  have F_texts_a1_7 := F_texts_a1_6.ext E7
  have F_name_a1_7 := F_name_a1_6.ext E7
  have E_b4_7 := E_b4_6.ext E7
  have F_elementData_b4_7 := F_elementData_b4_6.ext E7
  have F_size_b4_7 := F_size_b4_6.ext E7
  have F_modCount_b4_7 := F_modCount_b4_6.ext E7
  have O7 := O6.ext E7
  have Z7 := Nat.le_trans Z6 E7.1
  have KK7 : Keep h0 h7 [a1] := KK6.ext E7
  clear F_parent_a1_6 F_previous_a1_6 F_next_a1_6 F_firstChild_a1_6 F_lastChild_a1_6 E_a1_6 F_attributes_a1_6 F_texts_a1_6 F_name_a1_6 E_b4_6 F_elementData_b4_6 F_size_b4_6 F_modCount_b4_6 O6 Z6 KK6 E7
  have F_modCount_b7 : Fld Z h7 b7 "java/util/AbstractList" "modCount" "I" (.int (0 : Int32)) := D7 (Or.inl (hw _ (List.mem_of_getElem? (i := 53) rfl))) (ty := .int) (by decide)
  have F_elementData_b7 : Fld Z h7 b7 "java/util/ArrayList" "elementData" "[Ljava/lang/Object;" .null := D7 (Or.inl (hw _ (List.mem_of_getElem? (i := 56) rfl))) (ty := (.array (.object "java/lang/Object"))) (by decide)
  have F_size_b7 : Fld Z h7 b7 "java/util/ArrayList" "size" "I" (.int (0 : Int32)) := D7 (Or.inl (hw _ (List.mem_of_getElem? (i := 80) rfl))) (ty := .int) (by decide)
  show Go p e below _ (T7.setTop (mkF m 19 #[.val (.ref a1), .val (.ref a2)] [(.ref b7), (.ref a1)]))
  refine Go.step (fun t k => XS.dup X7.here hx rfl (hb hby d6_19) rfl rfl k) ?_
  show Go p e below _ (T7.setTop (mkF m 20 #[.val (.ref a1), .val (.ref a2)] [(.ref b7), (.ref b7), (.ref a1)]))
  obtain ⟨_, _, ⟨T8, L8, k8, n8⟩, -, X8, ⟨Lc8, hQ8, l8, y8, z8⟩, st8⟩ := X7.specialBack hx (y := (⟨"java/util/ArrayList", "<init>", "()V"⟩ : MethodName)) rfl hown (mvT hZ (hw _ (List.mem_of_getElem? (i := 36) rfl))) (mvT hZ (hw _ (List.mem_of_getElem? (i := 37) rfl))) (mvT hZ (hw _ (List.mem_of_getElem? (i := 38) rfl))) (by decide) (backOf (W := 2) (rm7 l Z a0 hw [] b7 (.int (0 : Int32)) .null (.int (0 : Int32)) oD h7 n0 Z7 A7 F_size_b7 O7 F_elementData_b7 F_modCount_b7 g_b7 S_DEFAULTCAPACITY_EMPTY_ELEMENTDATA A_DEFAULTCAPACITY_EMPTY_ELEMENTDATA) hZ (hw _ (List.mem_of_getElem? (i := 38) rfl)) (hw _ (List.mem_of_getElem? (i := 35) rfl)) (by decide) (by decide)) (g := (mkF m 20 #[.val (.ref a1), .val (.ref a2)] [(.ref b7), (.ref b7), (.ref a1)])) rfl (by rw [hml]; rfl) (Steps.refl _) (a := b7) (argsL := []) (rest := [(.ref b7), (.ref a1)]) (lenOf pd_3 rfl) rfl (by show 2 * 0 + _ ≤ _; exact Nat.le_of_eq rfl) (hb hby d6_20) (fun _ _ => ⟨rfl, e7, (by decide : 2 + 0 ≤ _), (by decide : 6 + 0 ≤ _)⟩)
  dsimp only [Pt.U, Pt.locs, Pt.cells, Pt.slots] at X8 l8 y8 z8 st8 hQ8
  subst l8 y8 z8
  obtain ⟨rfl, N8q, K8, Q8_0, Q8_1, Q8_2, Q8_3⟩ := hQ8
  have N8 := Fr.app N6 N8q
  have F_parent_a1_8 := F_parent_a1_7.keep K8 (ninS ne_a1_b7 nin0)
  have F_previous_a1_8 := F_previous_a1_7.keep K8 (ninS ne_a1_b7 nin0)
  have F_next_a1_8 := F_next_a1_7.keep K8 (ninS ne_a1_b7 nin0)
  have F_firstChild_a1_8 := F_firstChild_a1_7.keep K8 (ninS ne_a1_b7 nin0)
  have F_lastChild_a1_8 := F_lastChild_a1_7.keep K8 (ninS ne_a1_b7 nin0)
  have E_a1_8 := E_a1_7.keep K8
  have F_attributes_a1_8 := F_attributes_a1_7.keep K8 (ninS ne_a1_b7 nin0)
  have F_texts_a1_8 := F_texts_a1_7.keep K8 (ninS ne_a1_b7 nin0)
  have F_name_a1_8 := F_name_a1_7.keep K8 (ninS ne_a1_b7 nin0)
  have E_b4_8 := E_b4_7.keep K8
  have F_elementData_b4_8 := F_elementData_b4_7.keep K8 (ninS ne_b4_b7 nin0)
  have F_size_b4_8 := F_size_b4_7.keep K8 (ninS ne_b4_b7 nin0)
  have F_modCount_b4_8 := F_modCount_b4_7.keep K8 (ninS ne_b4_b7 nin0)
  have E_b7_8 := A7.keep K8
  have O8 := O7.keep K8 (allS g_b7 all0)
  have Z8 := Nat.le_trans Z7 K8.1
  have KK8 : Keep h0 T8.heap [a1] := KK7.trans K8 (allS (Or.inr sz_b7) all0)
  clear F_parent_a1_7 F_previous_a1_7 F_next_a1_7 F_firstChild_a1_7 F_lastChild_a1_7 E_a1_7 F_attributes_a1_7 F_texts_a1_7 F_name_a1_7 E_b4_7 F_elementData_b4_7 F_size_b4_7 F_modCount_b4_7 A7 O7 Z7 KK7 K8
  refine Go.trans st8 ?_
  show Go p e below _ (T8.setTop (mkF m 23 #[.val (.ref a1), .val (.ref a2)] [(.ref b7), (.ref a1)]))
  obtain ⟨T9, h9, X9, e9, W9, st9⟩ := putF X8 hx hZ hown (host := "") (Or.inl (hw _ (List.mem_of_getElem? (i := 59) rfl))) Via.refl rfl F_texts_a1_8 E_a1_8 (Or.inr ⟨(hw _ (List.mem_of_getElem? (i := 60) rfl)), rfl, hnm⟩) (hw _ (List.mem_of_getElem? (i := 1) rfl)) (ty := (.object "java/util/List")) (by decide) rfl rfl (g := (mkF m 23 #[.val (.ref a1), .val (.ref a2)] [(.ref b7), (.ref a1)])) rfl rfl (hb hby d6_23)
  refine Go.step st9 ?_
  have N9 := Fr.snoc X9 N8 g_a1
  have F_parent_a1_9 := F_parent_a1_8.other W9 (Or.inr (slot_ne (Or.inl (hw _ (List.mem_of_getElem? (i := 93) rfl))) (Or.inr (hw _ (List.mem_of_getElem? (i := 60) rfl))) (by decide) (t := (.object "com/example/dataflow_to_dispatch/dataflowtodispatch/model/document/XmlElement")) (t' := (.object "java/util/List")) (by decide) (by decide)))
  have F_previous_a1_9 := F_previous_a1_8.other W9 (Or.inr (slot_ne (Or.inl (hw _ (List.mem_of_getElem? (i := 95) rfl))) (Or.inr (hw _ (List.mem_of_getElem? (i := 60) rfl))) (by decide) (t := (.object "com/example/dataflow_to_dispatch/dataflowtodispatch/model/document/XmlElement")) (t' := (.object "java/util/List")) (by decide) (by decide)))
  have F_next_a1_9 := F_next_a1_8.other W9 (Or.inr (slot_ne (Or.inl (hw _ (List.mem_of_getElem? (i := 97) rfl))) (Or.inr (hw _ (List.mem_of_getElem? (i := 60) rfl))) (by decide) (t := (.object "com/example/dataflow_to_dispatch/dataflowtodispatch/model/document/XmlElement")) (t' := (.object "java/util/List")) (by decide) (by decide)))
  have F_firstChild_a1_9 := F_firstChild_a1_8.other W9 (Or.inr (slot_ne (Or.inl (hw _ (List.mem_of_getElem? (i := 69) rfl))) (Or.inr (hw _ (List.mem_of_getElem? (i := 60) rfl))) (by decide) (t := (.object "com/example/dataflow_to_dispatch/dataflowtodispatch/model/document/XmlElement")) (t' := (.object "java/util/List")) (by decide) (by decide)))
  have F_lastChild_a1_9 := F_lastChild_a1_8.other W9 (Or.inr (slot_ne (Or.inl (hw _ (List.mem_of_getElem? (i := 87) rfl))) (Or.inr (hw _ (List.mem_of_getElem? (i := 60) rfl))) (by decide) (t := (.object "com/example/dataflow_to_dispatch/dataflowtodispatch/model/document/XmlElement")) (t' := (.object "java/util/List")) (by decide) (by decide)))
  have E_a1_9 := E_a1_8.wr W9
  have F_attributes_a1_9 := F_attributes_a1_8.other W9 (Or.inr (slot_ne (Or.inr (hw _ (List.mem_of_getElem? (i := 58) rfl))) (Or.inr (hw _ (List.mem_of_getElem? (i := 60) rfl))) (by decide) (t := (.object "java/util/List")) (t' := (.object "java/util/List")) (by decide) (by decide)))
  have F_name_a1_9 := F_name_a1_8.other W9 (Or.inr (slot_ne (Or.inr (hw _ (List.mem_of_getElem? (i := 62) rfl))) (Or.inr (hw _ (List.mem_of_getElem? (i := 60) rfl))) (by decide) (t := (.object "java/lang/String")) (t' := (.object "java/util/List")) (by decide) (by decide)))
  have E_b4_9 := E_b4_8.wr W9
  have F_elementData_b4_9 := F_elementData_b4_8.other W9 (Or.inl (Ne.symm ne_a1_b4))
  have F_size_b4_9 := F_size_b4_8.other W9 (Or.inl (Ne.symm ne_a1_b4))
  have F_modCount_b4_9 := F_modCount_b4_8.other W9 (Or.inl (Ne.symm ne_a1_b4))
  have E_b7_9 := Q8_0.wr W9
  have F_elementData_b7_9 := Q8_1.other W9 (Or.inl (Ne.symm ne_a1_b7))
  have F_size_b7_9 := Q8_2.other W9 (Or.inl (Ne.symm ne_a1_b7))
  have F_modCount_b7_9 := Q8_3.other W9 (Or.inl (Ne.symm ne_a1_b7))
  have O9 := O8.wr W9 g_a1
  have Z9 := Nat.le_trans Z8 (Keep.of_wr W9).1
  have KK9 : Keep h0 h9 [a1] := KK8.wr W9 (Or.inl (by simp))
  clear F_parent_a1_8 F_previous_a1_8 F_next_a1_8 F_firstChild_a1_8 F_lastChild_a1_8 E_a1_8 F_attributes_a1_8 F_name_a1_8 E_b4_8 F_elementData_b4_8 F_size_b4_8 F_modCount_b4_8 Q8_0 Q8_1 Q8_2 Q8_3 O8 Z8 KK8
  have F_texts_a1_9 := F_texts_a1_8.same W9
  show Go p e below _ (T9.setTop (mkF m 26 #[.val (.ref a1), .val (.ref a2)] []))
  refine Go.step (fun t k => XS.aloadN X9.here hx rfl (hb hby d6_26) rfl rfl k) ?_
  show Go p e below _ (T9.setTop (mkF m 27 #[.val (.ref a1), .val (.ref a2)] [(.ref a1)]))
  refine Go.step (fun t k => XS.aloadN X9.here hx rfl (hb hby d6_27) rfl rfl k) ?_
  show Go p e below _ (T9.setTop (mkF m 28 #[.val (.ref a1), .val (.ref a2)] [(.ref a2), (.ref a1)]))
  obtain ⟨T10, h10, X10, e10, W10, st10⟩ := putF X9 hx hZ hown (host := "") (Or.inl (hw _ (List.mem_of_getElem? (i := 61) rfl))) Via.refl e9 F_name_a1_9 E_a1_9 (Or.inr ⟨(hw _ (List.mem_of_getElem? (i := 62) rfl)), rfl, hnm⟩) (hw _ (List.mem_of_getElem? (i := 1) rfl)) (ty := (.object "java/lang/String")) (by decide) rfl rfl (g := (mkF m 28 #[.val (.ref a1), .val (.ref a2)] [(.ref a2), (.ref a1)])) rfl rfl (hb hby d6_28)
  refine Go.step st10 ?_
  have N10 := Fr.snoc X10 N9 g_a1
  have F_parent_a1_10 := F_parent_a1_9.other W10 (Or.inr (slot_ne (Or.inl (hw _ (List.mem_of_getElem? (i := 93) rfl))) (Or.inr (hw _ (List.mem_of_getElem? (i := 62) rfl))) (by decide) (t := (.object "com/example/dataflow_to_dispatch/dataflowtodispatch/model/document/XmlElement")) (t' := (.object "java/lang/String")) (by decide) (by decide)))
  have F_previous_a1_10 := F_previous_a1_9.other W10 (Or.inr (slot_ne (Or.inl (hw _ (List.mem_of_getElem? (i := 95) rfl))) (Or.inr (hw _ (List.mem_of_getElem? (i := 62) rfl))) (by decide) (t := (.object "com/example/dataflow_to_dispatch/dataflowtodispatch/model/document/XmlElement")) (t' := (.object "java/lang/String")) (by decide) (by decide)))
  have F_next_a1_10 := F_next_a1_9.other W10 (Or.inr (slot_ne (Or.inl (hw _ (List.mem_of_getElem? (i := 97) rfl))) (Or.inr (hw _ (List.mem_of_getElem? (i := 62) rfl))) (by decide) (t := (.object "com/example/dataflow_to_dispatch/dataflowtodispatch/model/document/XmlElement")) (t' := (.object "java/lang/String")) (by decide) (by decide)))
  have F_firstChild_a1_10 := F_firstChild_a1_9.other W10 (Or.inr (slot_ne (Or.inl (hw _ (List.mem_of_getElem? (i := 69) rfl))) (Or.inr (hw _ (List.mem_of_getElem? (i := 62) rfl))) (by decide) (t := (.object "com/example/dataflow_to_dispatch/dataflowtodispatch/model/document/XmlElement")) (t' := (.object "java/lang/String")) (by decide) (by decide)))
  have F_lastChild_a1_10 := F_lastChild_a1_9.other W10 (Or.inr (slot_ne (Or.inl (hw _ (List.mem_of_getElem? (i := 87) rfl))) (Or.inr (hw _ (List.mem_of_getElem? (i := 62) rfl))) (by decide) (t := (.object "com/example/dataflow_to_dispatch/dataflowtodispatch/model/document/XmlElement")) (t' := (.object "java/lang/String")) (by decide) (by decide)))
  have E_a1_10 := E_a1_9.wr W10
  have F_attributes_a1_10 := F_attributes_a1_9.other W10 (Or.inr (slot_ne (Or.inr (hw _ (List.mem_of_getElem? (i := 58) rfl))) (Or.inr (hw _ (List.mem_of_getElem? (i := 62) rfl))) (by decide) (t := (.object "java/util/List")) (t' := (.object "java/lang/String")) (by decide) (by decide)))
  have F_texts_a1_10 := F_texts_a1_9.other W10 (Or.inr (slot_ne (Or.inr (hw _ (List.mem_of_getElem? (i := 60) rfl))) (Or.inr (hw _ (List.mem_of_getElem? (i := 62) rfl))) (by decide) (t := (.object "java/util/List")) (t' := (.object "java/lang/String")) (by decide) (by decide)))
  have E_b4_10 := E_b4_9.wr W10
  have F_elementData_b4_10 := F_elementData_b4_9.other W10 (Or.inl (Ne.symm ne_a1_b4))
  have F_size_b4_10 := F_size_b4_9.other W10 (Or.inl (Ne.symm ne_a1_b4))
  have F_modCount_b4_10 := F_modCount_b4_9.other W10 (Or.inl (Ne.symm ne_a1_b4))
  have E_b7_10 := E_b7_9.wr W10
  have F_elementData_b7_10 := F_elementData_b7_9.other W10 (Or.inl (Ne.symm ne_a1_b7))
  have F_size_b7_10 := F_size_b7_9.other W10 (Or.inl (Ne.symm ne_a1_b7))
  have F_modCount_b7_10 := F_modCount_b7_9.other W10 (Or.inl (Ne.symm ne_a1_b7))
  have O10 := O9.wr W10 g_a1
  have Z10 := Nat.le_trans Z9 (Keep.of_wr W10).1
  have KK10 : Keep h0 h10 [a1] := KK9.wr W10 (Or.inl (by simp))
  clear F_parent_a1_9 F_previous_a1_9 F_next_a1_9 F_firstChild_a1_9 F_lastChild_a1_9 E_a1_9 F_attributes_a1_9 F_texts_a1_9 E_b4_9 F_elementData_b4_9 F_size_b4_9 F_modCount_b4_9 E_b7_9 F_elementData_b7_9 F_size_b7_9 F_modCount_b7_9 O9 Z9 KK9
  have F_name_a1_10 := F_name_a1_9.same W10
  show Go p e below _ (T10.setTop (mkF m 31 #[.val (.ref a1), .val (.ref a2)] []))
  refine retGV X10 hx Bd.notSynchronized Bd.returns (hb hby d6_31) ?_ (by decide) (by decide)
  show Q6 Z a1 a2 u_parent_a1 u_previous_a1 u_next_a1 u_firstChild_a1 u_lastChild_a1 u_attributes_a1 u_texts_a1 u_name_a1 oD h0 n0 _ T10.heap _
  rw [e10]
  exact ⟨rfl, N10, KK10, F_parent_a1_10, F_previous_a1_10, F_next_a1_10, F_firstChild_a1_10, F_lastChild_a1_10, E_a1_10, F_name_a1_10⟩
theorem d13_0 : decode prog_109_method_15_code 0 = .ok (.aload_n 2, 1) := by decide +kernel
theorem d13_1 : decode prog_109_method_15_code 1 = .ok (.aload_n 0, 1) := by decide +kernel
theorem d13_2 : decode prog_109_method_15_code 2 = .ok (.putfield 23, 3) := by decide +kernel
theorem d13_5 : decode prog_109_method_15_code 5 = .ok (.aload_n 2, 1) := by decide +kernel
theorem d13_6 : decode prog_109_method_15_code 6 = .ok (.aload_n 1, 1) := by decide +kernel
theorem d13_7 : decode prog_109_method_15_code 7 = .ok (.putfield 51, 3) := by decide +kernel
theorem d13_10 : decode prog_109_method_15_code 10 = .ok (.aload_n 1, 1) := by decide +kernel
theorem d13_11 : decode prog_109_method_15_code 11 = .ok (.ifnonnull 11, 3) := by decide +kernel
theorem d13_14 : decode prog_109_method_15_code 14 = .ok (.aload_n 0, 1) := by decide +kernel
theorem d13_15 : decode prog_109_method_15_code 15 = .ok (.aload_n 2, 1) := by decide +kernel
theorem d13_16 : decode prog_109_method_15_code 16 = .ok (.putfield 39, 3) := by decide +kernel
theorem d13_19 : decode prog_109_method_15_code 19 = .ok (.goto 8, 3) := by decide +kernel
theorem d13_27 : decode prog_109_method_15_code 27 = .ok (.return_, 1) := by decide +kernel
theorem ef_13_n (m : MethodId) (a1 : Addr) (a3 : Addr) : entryFrame m #[(.ref a1), .null, (.ref a3)] 3 = mkF m 0 #[.val (.ref a1), .val .null, .val (.ref a3)] [] := by first | (simp [entryFrame, mkF, argsToLocals, Value.category]; done) | rfl
def Q13_n (Z : State) (a1 : Addr) (a3 : Addr) (u_lastChild_a1 : Value) (u_firstChild_a1 : Value) (u_name_a3 : Value) (u_parent_a3 : Value) (u_previous_a3 : Value) (u_next_a3 : Value) (h0 : Heap) (n0 : Nat) (v : Option Value) (h : Heap) (L : List Loc) : Prop := v = none ∧ Fr n0 L ∧ Keep h0 h [a3, a1] ∧ Exa Z h a1 "com/example/dataflow_to_dispatch/dataflowtodispatch/model/document/XmlElement" ∧ Fld Z h a1 "com/example/dataflow_to_dispatch/dataflowtodispatch/model/document/XmlElement" "lastChild" "Lcom/example/dataflow_to_dispatch/dataflowtodispatch/model/document/XmlElement;" u_lastChild_a1 ∧ Fld Z h a1 "com/example/dataflow_to_dispatch/dataflowtodispatch/model/document/XmlElement" "firstChild" "Lcom/example/dataflow_to_dispatch/dataflowtodispatch/model/document/XmlElement;" (.ref a3) ∧ Exa Z h a3 "com/example/dataflow_to_dispatch/dataflowtodispatch/model/document/XmlElement" ∧ Fld Z h a3 "com/example/dataflow_to_dispatch/dataflowtodispatch/model/document/XmlElement" "name" "Ljava/lang/String;" u_name_a3 ∧ Fld Z h a3 "com/example/dataflow_to_dispatch/dataflowtodispatch/model/document/XmlElement" "parent" "Lcom/example/dataflow_to_dispatch/dataflowtodispatch/model/document/XmlElement;" (.ref a1) ∧ Fld Z h a3 "com/example/dataflow_to_dispatch/dataflowtodispatch/model/document/XmlElement" "previous" "Lcom/example/dataflow_to_dispatch/dataflowtodispatch/model/document/XmlElement;" .null ∧ Fld Z h a3 "com/example/dataflow_to_dispatch/dataflowtodispatch/model/document/XmlElement" "next" "Lcom/example/dataflow_to_dispatch/dataflowtodispatch/model/document/XmlElement;" u_next_a3
set_option maxRecDepth 65536 in
set_option maxHeartbeats 40000000 in
theorem rm13_n (l : Launch) (Z : State) (a0 : Array Value) (hw : ∀ d ∈ tables_1, d.before a0 Z = true) (ws : List Jvm.Cond) (a1 : Addr) (a3 : Addr) (u_lastChild_a1 : Value) (u_firstChild_a1 : Value) (u_name_a3 : Value) (u_parent_a3 : Value) (u_previous_a3 : Value) (u_next_a3 : Value) (h0 : Heap) (n0 : Nat) (Z0 : n0 ≤ h0.size) (E_a1 : Exa Z h0 a1 "com/example/dataflow_to_dispatch/dataflowtodispatch/model/document/XmlElement") (F_lastChild_a1 : Fld Z h0 a1 "com/example/dataflow_to_dispatch/dataflowtodispatch/model/document/XmlElement" "lastChild" "Lcom/example/dataflow_to_dispatch/dataflowtodispatch/model/document/XmlElement;" u_lastChild_a1) (F_firstChild_a1 : Fld Z h0 a1 "com/example/dataflow_to_dispatch/dataflowtodispatch/model/document/XmlElement" "firstChild" "Lcom/example/dataflow_to_dispatch/dataflowtodispatch/model/document/XmlElement;" u_firstChild_a1) (E_a3 : Exa Z h0 a3 "com/example/dataflow_to_dispatch/dataflowtodispatch/model/document/XmlElement") (F_name_a3 : Fld Z h0 a3 "com/example/dataflow_to_dispatch/dataflowtodispatch/model/document/XmlElement" "name" "Ljava/lang/String;" u_name_a3) (F_parent_a3 : Fld Z h0 a3 "com/example/dataflow_to_dispatch/dataflowtodispatch/model/document/XmlElement" "parent" "Lcom/example/dataflow_to_dispatch/dataflowtodispatch/model/document/XmlElement;" u_parent_a3) (F_previous_a3 : Fld Z h0 a3 "com/example/dataflow_to_dispatch/dataflowtodispatch/model/document/XmlElement" "previous" "Lcom/example/dataflow_to_dispatch/dataflowtodispatch/model/document/XmlElement;" u_previous_a3) (F_next_a3 : Fld Z h0 a3 "com/example/dataflow_to_dispatch/dataflowtodispatch/model/document/XmlElement" "next" "Lcom/example/dataflow_to_dispatch/dataflowtodispatch/model/document/XmlElement;" u_next_a3) (g_a3 : n0 ≤ a3) (hne_a1_a3 : a1 ≠ a3) (g_a1 : n0 ≤ a1) (hne_a3_a1 : a3 ≠ a1) :
    MetFree l (⟨"com/example/dataflow_to_dispatch/dataflowtodispatch/model/document/XmlElement", "linkAfter", "(Lcom/example/dataflow_to_dispatch/dataflowtodispatch/model/document/XmlElement;Lcom/example/dataflow_to_dispatch/dataflowtodispatch/model/document/XmlElement;)V"⟩ : MethodName) (head1 (Jvm.Cond.code (⟨"com/example/dataflow_to_dispatch/dataflowtodispatch/model/document/XmlElement", "linkAfter", "(Lcom/example/dataflow_to_dispatch/dataflowtodispatch/model/document/XmlElement;Lcom/example/dataflow_to_dispatch/dataflowtodispatch/model/document/XmlElement;)V"⟩ : MethodName) prog_109_method_15_code 3 none :: ws) ({ frames := 0, cells := 0, slots := 0, locals := 0 } : Room)) (fun a U => a = #[(.ref a1), .null, (.ref a3)] ∧ Z.Warmed39 U.vm ∧ U.heap = h0) (fun _ _ _ _ _ => True) (fun _ U o U' => ∃ v L, o = .returned v ∧ Q13_n Z a1 a3 u_lastChild_a1 u_firstChild_a1 u_name_a3 u_parent_a3 u_previous_a3 u_next_a3 h0 n0 v U'.heap L ∧ FrameEnd U o U' L ({ frames := 0, cells := 0, slots := 0, locals := 0 } : Room).cells ({ frames := 0, cells := 0, slots := 0, locals := 0 } : Room).slots) := by
  refine MetFree.of_bodySF (plainFor_of_name pn_5) hisR ?_
  intro p e s m args below meth c s₁ Bd hml0 hP hK
  obtain ⟨rfl, hZ, hh⟩ := hP
  have hx := Bd.exec
  have hby := Bd.bytes
  have hml : c.maxLocals = 3 := hml0
  have hown : s.vm.findClass "com/example/dataflow_to_dispatch/dataflowtodispatch/model/document/XmlElement" = some m.cls := findClass_of_methodNamed Bd.named
  have hnm := (name_of_methodNamed Bd.named Bd.method).1
  have X0 : Stand p l e ({ frames := 0, cells := 0, slots := 0, locals := 0 } : Room) s m #[(.ref a1), .null, (.ref a3)] below meth c s₁ [] 0 0 := Stand.of_body Bd
  have e0 : s₁.heap = h0 := by rw [← hh, Bd.state]; rfl
  have N0 := Fr.nil n0
  refine Go.done (Go.step (fun t k => castTop (ef_13_n m a1 a3) k) ?_)
  have KK0 : Keep h0 h0 [a3, a1] := Keep.refl _ _
  show Go p e below _ (s₁.setTop (mkF m 0 #[.val (.ref a1), .val .null, .val (.ref a3)] []))
  refine Go.step (fun t k => XS.aloadN X0.here hx rfl (hb hby d13_0) rfl rfl k) ?_
  show Go p e below _ (s₁.setTop (mkF m 1 #[.val (.ref a1), .val .null, .val (.ref a3)] [(.ref a3)]))
  refine Go.step (fun t k => XS.aloadN X0.here hx rfl (hb hby d13_1) rfl rfl k) ?_
  show Go p e below _ (s₁.setTop (mkF m 2 #[.val (.ref a1), .val .null, .val (.ref a3)] [(.ref a1), (.ref a3)]))
  obtain ⟨T4, h4, X4, e4, W4, st4⟩ := putF X0 hx hZ hown (host := "") (Or.inl (hw _ (List.mem_of_getElem? (i := 92) rfl))) Via.refl e0 F_parent_a3 E_a3 (Or.inl (hw _ (List.mem_of_getElem? (i := 93) rfl))) (hw _ (List.mem_of_getElem? (i := 1) rfl)) (ty := (.object "com/example/dataflow_to_dispatch/dataflowtodispatch/model/document/XmlElement")) (by decide) rfl rfl (g := (mkF m 2 #[.val (.ref a1), .val .null, .val (.ref a3)] [(.ref a1), (.ref a3)])) rfl rfl (hb hby d13_2)
  refine Go.step st4 ?_
  have N4 := Fr.snoc X4 N0 g_a3
  have E_a1_4 := E_a1.wr W4
  have F_lastChild_a1_4 := F_lastChild_a1.other W4 (Or.inl hne_a1_a3)
  have F_firstChild_a1_4 := F_firstChild_a1.other W4 (Or.inl hne_a1_a3)
  have E_a3_4 := E_a3.wr W4
  have F_name_a3_4 := F_name_a3.other W4 (Or.inr (slot_ne (Or.inr (hw _ (List.mem_of_getElem? (i := 62) rfl))) (Or.inl (hw _ (List.mem_of_getElem? (i := 93) rfl))) (by decide) (t := (.object "java/lang/String")) (t' := (.object "com/example/dataflow_to_dispatch/dataflowtodispatch/model/document/XmlElement")) (by decide) (by decide)))
  have F_previous_a3_4 := F_previous_a3.other W4 (Or.inr (slot_ne (Or.inl (hw _ (List.mem_of_getElem? (i := 95) rfl))) (Or.inl (hw _ (List.mem_of_getElem? (i := 93) rfl))) (by decide) (t := (.object "com/example/dataflow_to_dispatch/dataflowtodispatch/model/document/XmlElement")) (t' := (.object "com/example/dataflow_to_dispatch/dataflowtodispatch/model/document/XmlElement")) (by decide) (by decide)))
  have F_next_a3_4 := F_next_a3.other W4 (Or.inr (slot_ne (Or.inl (hw _ (List.mem_of_getElem? (i := 97) rfl))) (Or.inl (hw _ (List.mem_of_getElem? (i := 93) rfl))) (by decide) (t := (.object "com/example/dataflow_to_dispatch/dataflowtodispatch/model/document/XmlElement")) (t' := (.object "com/example/dataflow_to_dispatch/dataflowtodispatch/model/document/XmlElement")) (by decide) (by decide)))
  have Z4 := Nat.le_trans Z0 (Keep.of_wr W4).1
  have KK4 : Keep h0 h4 [a3, a1] := KK0.wr W4 (Or.inl (by simp))
  clear E_a1 F_lastChild_a1 F_firstChild_a1 E_a3 F_name_a3 F_previous_a3 F_next_a3 Z0 KK0
  have F_parent_a3_4 := F_parent_a3.same W4
  show Go p e below _ (T4.setTop (mkF m 5 #[.val (.ref a1), .val .null, .val (.ref a3)] []))
  refine Go.step (fun t k => XS.aloadN X4.here hx rfl (hb hby d13_5) rfl rfl k) ?_
  show Go p e below _ (T4.setTop (mkF m 6 #[.val (.ref a1), .val .null, .val (.ref a3)] [(.ref a3)]))
  refine Go.step (fun t k => XS.aloadN X4.here hx rfl (hb hby d13_6) rfl rfl k) ?_
  show Go p e below _ (T4.setTop (mkF m 7 #[.val (.ref a1), .val .null, .val (.ref a3)] [.null, (.ref a3)]))
  obtain ⟨T5, h5, X5, e5, W5, st5⟩ := putF X4 hx hZ hown (host := "") (Or.inl (hw _ (List.mem_of_getElem? (i := 94) rfl))) Via.refl e4 F_previous_a3_4 E_a3_4 (Or.inl (hw _ (List.mem_of_getElem? (i := 95) rfl))) (hw _ (List.mem_of_getElem? (i := 1) rfl)) (ty := (.object "com/example/dataflow_to_dispatch/dataflowtodispatch/model/document/XmlElement")) (by decide) rfl rfl (g := (mkF m 7 #[.val (.ref a1), .val .null, .val (.ref a3)] [.null, (.ref a3)])) rfl rfl (hb hby d13_7)
  refine Go.step st5 ?_
  have N5 := Fr.snoc X5 N4 g_a3
  have E_a1_5 := E_a1_4.wr W5
  have F_lastChild_a1_5 := F_lastChild_a1_4.other W5 (Or.inl hne_a1_a3)
  have F_firstChild_a1_5 := F_firstChild_a1_4.other W5 (Or.inl hne_a1_a3)
  have E_a3_5 := E_a3_4.wr W5
  have F_name_a3_5 := F_name_a3_4.other W5 (Or.inr (slot_ne (Or.inr (hw _ (List.mem_of_getElem? (i := 62) rfl))) (Or.inl (hw _ (List.mem_of_getElem? (i := 95) rfl))) (by decide) (t := (.object "java/lang/String")) (t' := (.object "com/example/dataflow_to_dispatch/dataflowtodispatch/model/document/XmlElement")) (by decide) (by decide)))
  have F_parent_a3_5 := F_parent_a3_4.other W5 (Or.inr (slot_ne (Or.inl (hw _ (List.mem_of_getElem? (i := 93) rfl))) (Or.inl (hw _ (List.mem_of_getElem? (i := 95) rfl))) (by decide) (t := (.object "com/example/dataflow_to_dispatch/dataflowtodispatch/model/document/XmlElement")) (t' := (.object "com/example/dataflow_to_dispatch/dataflowtodispatch/model/document/XmlElement")) (by decide) (by decide)))
  have F_next_a3_5 := F_next_a3_4.other W5 (Or.inr (slot_ne (Or.inl (hw _ (List.mem_of_getElem? (i := 97) rfl))) (Or.inl (hw _ (List.mem_of_getElem? (i := 95) rfl))) (by decide) (t := (.object "com/example/dataflow_to_dispatch/dataflowtodispatch/model/document/XmlElement")) (t' := (.object "com/example/dataflow_to_dispatch/dataflowtodispatch/model/document/XmlElement")) (by decide) (by decide)))
  have Z5 := Nat.le_trans Z4 (Keep.of_wr W5).1
  have KK5 : Keep h0 h5 [a3, a1] := KK4.wr W5 (Or.inl (by simp))
  clear E_a1_4 F_lastChild_a1_4 F_firstChild_a1_4 E_a3_4 F_name_a3_4 F_parent_a3_4 F_next_a3_4 Z4 KK4
  have F_previous_a3_5 := F_previous_a3_4.same W5
  show Go p e below _ (T5.setTop (mkF m 10 #[.val (.ref a1), .val .null, .val (.ref a3)] []))
  refine Go.step (fun t k => XS.aloadN X5.here hx rfl (hb hby d13_10) rfl rfl k) ?_
  show Go p e below _ (T5.setTop (mkF m 11 #[.val (.ref a1), .val .null, .val (.ref a3)] [.null]))
  refine Go.step (fun t k => XS.ifnonnullNo X5.here hx rfl (hb hby d13_11) rfl k) ?_
  show Go p e below _ (T5.setTop (mkF m 14 #[.val (.ref a1), .val .null, .val (.ref a3)] []))
  refine Go.step (fun t k => XS.aloadN X5.here hx rfl (hb hby d13_14) rfl rfl k) ?_
  show Go p e below _ (T5.setTop (mkF m 15 #[.val (.ref a1), .val .null, .val (.ref a3)] [(.ref a1)]))
  refine Go.step (fun t k => XS.aloadN X5.here hx rfl (hb hby d13_15) rfl rfl k) ?_
  show Go p e below _ (T5.setTop (mkF m 16 #[.val (.ref a1), .val .null, .val (.ref a3)] [(.ref a3), (.ref a1)]))
  obtain ⟨T6, h6, X6, e6, W6, st6⟩ := putF X5 hx hZ hown (host := "") (Or.inl (hw _ (List.mem_of_getElem? (i := 68) rfl))) Via.refl e5 F_firstChild_a1_5 E_a1_5 (Or.inl (hw _ (List.mem_of_getElem? (i := 69) rfl))) (hw _ (List.mem_of_getElem? (i := 1) rfl)) (ty := (.object "com/example/dataflow_to_dispatch/dataflowtodispatch/model/document/XmlElement")) (by decide) rfl rfl (g := (mkF m 16 #[.val (.ref a1), .val .null, .val (.ref a3)] [(.ref a3), (.ref a1)])) rfl rfl (hb hby d13_16)
  refine Go.step st6 ?_
  have N6 := Fr.snoc X6 N5 g_a1
  have E_a1_6 := E_a1_5.wr W6
  have F_lastChild_a1_6 := F_lastChild_a1_5.other W6 (Or.inr (slot_ne (Or.inl (hw _ (List.mem_of_getElem? (i := 87) rfl))) (Or.inl (hw _ (List.mem_of_getElem? (i := 69) rfl))) (by decide) (t := (.object "com/example/dataflow_to_dispatch/dataflowtodispatch/model/document/XmlElement")) (t' := (.object "com/example/dataflow_to_dispatch/dataflowtodispatch/model/document/XmlElement")) (by decide) (by decide)))
  have E_a3_6 := E_a3_5.wr W6
  have F_name_a3_6 := F_name_a3_5.other W6 (Or.inl hne_a3_a1)
  have F_parent_a3_6 := F_parent_a3_5.other W6 (Or.inl hne_a3_a1)
  have F_previous_a3_6 := F_previous_a3_5.other W6 (Or.inl hne_a3_a1)
  have F_next_a3_6 := F_next_a3_5.other W6 (Or.inl hne_a3_a1)
  have Z6 := Nat.le_trans Z5 (Keep.of_wr W6).1
  have KK6 : Keep h0 h6 [a3, a1] := KK5.wr W6 (Or.inl (by simp))
  clear E_a1_5 F_lastChild_a1_5 E_a3_5 F_name_a3_5 F_parent_a3_5 F_previous_a3_5 F_next_a3_5 Z5 KK5
  have F_firstChild_a1_6 := F_firstChild_a1_5.same W6
  show Go p e below _ (T6.setTop (mkF m 19 #[.val (.ref a1), .val .null, .val (.ref a3)] []))
  refine Go.step (fun t k => XS.goto X6.here hx rfl (pc0 := 19) (pc' := 27) rfl (hb hby d13_19) (by decide) (by decide) k) ?_
  show Go p e below _ (T6.setTop (mkF m 27 #[.val (.ref a1), .val .null, .val (.ref a3)] []))
  refine retGV X6 hx Bd.notSynchronized Bd.returns (hb hby d13_27) ?_ (by decide) (by decide)
  show Q13_n Z a1 a3 u_lastChild_a1 u_firstChild_a1 u_name_a3 u_parent_a3 u_previous_a3 u_next_a3 h0 n0 _ T6.heap _
  rw [e6]
  exact ⟨rfl, N6, KK6, E_a1_6, F_lastChild_a1_6, F_firstChild_a1_6, E_a3_6, F_name_a3_6, F_parent_a3_6, F_previous_a3_6, F_next_a3_6⟩
theorem d13_22 : decode prog_109_method_15_code 22 = .ok (.aload_n 1, 1) := by decide +kernel
theorem d13_23 : decode prog_109_method_15_code 23 = .ok (.aload_n 2, 1) := by decide +kernel
theorem d13_24 : decode prog_109_method_15_code 24 = .ok (.putfield 48, 3) := by decide +kernel
theorem ef_13_r (m : MethodId) (a1 : Addr) (a2 : Addr) (a3 : Addr) : entryFrame m #[(.ref a1), (.ref a2), (.ref a3)] 3 = mkF m 0 #[.val (.ref a1), .val (.ref a2), .val (.ref a3)] [] := by first | (simp [entryFrame, mkF, argsToLocals, Value.category]; done) | rfl
def Q13_r (Z : State) (a1 : Addr) (a2 : Addr) (a3 : Addr) (u_name_a2 : Value) (u_previous_a2 : Value) (u_next_a2 : Value) (u_name_a3 : Value) (u_parent_a3 : Value) (u_previous_a3 : Value) (u_next_a3 : Value) (h0 : Heap) (n0 : Nat) (v : Option Value) (h : Heap) (L : List Loc) : Prop := v = none ∧ Fr n0 L ∧ Keep h0 h [a3, a2] ∧ Exa Z h a2 "com/example/dataflow_to_dispatch/dataflowtodispatch/model/document/XmlElement" ∧ Fld Z h a2 "com/example/dataflow_to_dispatch/dataflowtodispatch/model/document/XmlElement" "name" "Ljava/lang/String;" u_name_a2 ∧ Fld Z h a2 "com/example/dataflow_to_dispatch/dataflowtodispatch/model/document/XmlElement" "previous" "Lcom/example/dataflow_to_dispatch/dataflowtodispatch/model/document/XmlElement;" u_previous_a2 ∧ Fld Z h a2 "com/example/dataflow_to_dispatch/dataflowtodispatch/model/document/XmlElement" "next" "Lcom/example/dataflow_to_dispatch/dataflowtodispatch/model/document/XmlElement;" (.ref a3) ∧ Exa Z h a3 "com/example/dataflow_to_dispatch/dataflowtodispatch/model/document/XmlElement" ∧ Fld Z h a3 "com/example/dataflow_to_dispatch/dataflowtodispatch/model/document/XmlElement" "name" "Ljava/lang/String;" u_name_a3 ∧ Fld Z h a3 "com/example/dataflow_to_dispatch/dataflowtodispatch/model/document/XmlElement" "parent" "Lcom/example/dataflow_to_dispatch/dataflowtodispatch/model/document/XmlElement;" (.ref a1) ∧ Fld Z h a3 "com/example/dataflow_to_dispatch/dataflowtodispatch/model/document/XmlElement" "previous" "Lcom/example/dataflow_to_dispatch/dataflowtodispatch/model/document/XmlElement;" (.ref a2) ∧ Fld Z h a3 "com/example/dataflow_to_dispatch/dataflowtodispatch/model/document/XmlElement" "next" "Lcom/example/dataflow_to_dispatch/dataflowtodispatch/model/document/XmlElement;" u_next_a3
set_option maxRecDepth 65536 in
set_option maxHeartbeats 40000000 in
theorem rm13_r (l : Launch) (Z : State) (a0 : Array Value) (hw : ∀ d ∈ tables_1, d.before a0 Z = true) (ws : List Jvm.Cond) (a1 : Addr) (a2 : Addr) (a3 : Addr) (u_name_a2 : Value) (u_previous_a2 : Value) (u_next_a2 : Value) (u_name_a3 : Value) (u_parent_a3 : Value) (u_previous_a3 : Value) (u_next_a3 : Value) (h0 : Heap) (n0 : Nat) (Z0 : n0 ≤ h0.size) (E_a2 : Exa Z h0 a2 "com/example/dataflow_to_dispatch/dataflowtodispatch/model/document/XmlElement") (F_name_a2 : Fld Z h0 a2 "com/example/dataflow_to_dispatch/dataflowtodispatch/model/document/XmlElement" "name" "Ljava/lang/String;" u_name_a2) (F_previous_a2 : Fld Z h0 a2 "com/example/dataflow_to_dispatch/dataflowtodispatch/model/document/XmlElement" "previous" "Lcom/example/dataflow_to_dispatch/dataflowtodispatch/model/document/XmlElement;" u_previous_a2) (F_next_a2 : Fld Z h0 a2 "com/example/dataflow_to_dispatch/dataflowtodispatch/model/document/XmlElement" "next" "Lcom/example/dataflow_to_dispatch/dataflowtodispatch/model/document/XmlElement;" u_next_a2) (E_a3 : Exa Z h0 a3 "com/example/dataflow_to_dispatch/dataflowtodispatch/model/document/XmlElement") (F_name_a3 : Fld Z h0 a3 "com/example/dataflow_to_dispatch/dataflowtodispatch/model/document/XmlElement" "name" "Ljava/lang/String;" u_name_a3) (F_parent_a3 : Fld Z h0 a3 "com/example/dataflow_to_dispatch/dataflowtodispatch/model/document/XmlElement" "parent" "Lcom/example/dataflow_to_dispatch/dataflowtodispatch/model/document/XmlElement;" u_parent_a3) (F_previous_a3 : Fld Z h0 a3 "com/example/dataflow_to_dispatch/dataflowtodispatch/model/document/XmlElement" "previous" "Lcom/example/dataflow_to_dispatch/dataflowtodispatch/model/document/XmlElement;" u_previous_a3) (F_next_a3 : Fld Z h0 a3 "com/example/dataflow_to_dispatch/dataflowtodispatch/model/document/XmlElement" "next" "Lcom/example/dataflow_to_dispatch/dataflowtodispatch/model/document/XmlElement;" u_next_a3) (g_a3 : n0 ≤ a3) (hne_a2_a3 : a2 ≠ a3) (g_a2 : n0 ≤ a2) (hne_a3_a2 : a3 ≠ a2) :
    MetFree l (⟨"com/example/dataflow_to_dispatch/dataflowtodispatch/model/document/XmlElement", "linkAfter", "(Lcom/example/dataflow_to_dispatch/dataflowtodispatch/model/document/XmlElement;Lcom/example/dataflow_to_dispatch/dataflowtodispatch/model/document/XmlElement;)V"⟩ : MethodName) (head1 (Jvm.Cond.code (⟨"com/example/dataflow_to_dispatch/dataflowtodispatch/model/document/XmlElement", "linkAfter", "(Lcom/example/dataflow_to_dispatch/dataflowtodispatch/model/document/XmlElement;Lcom/example/dataflow_to_dispatch/dataflowtodispatch/model/document/XmlElement;)V"⟩ : MethodName) prog_109_method_15_code 3 none :: ws) ({ frames := 0, cells := 0, slots := 0, locals := 0 } : Room)) (fun a U => a = #[(.ref a1), (.ref a2), (.ref a3)] ∧ Z.Warmed39 U.vm ∧ U.heap = h0) (fun _ _ _ _ _ => True) (fun _ U o U' => ∃ v L, o = .returned v ∧ Q13_r Z a1 a2 a3 u_name_a2 u_previous_a2 u_next_a2 u_name_a3 u_parent_a3 u_previous_a3 u_next_a3 h0 n0 v U'.heap L ∧ FrameEnd U o U' L ({ frames := 0, cells := 0, slots := 0, locals := 0 } : Room).cells ({ frames := 0, cells := 0, slots := 0, locals := 0 } : Room).slots) := by
  refine MetFree.of_bodySF (plainFor_of_name pn_5) hisR ?_
  intro p e s m args below meth c s₁ Bd hml0 hP hK
  obtain ⟨rfl, hZ, hh⟩ := hP
  have hx := Bd.exec
  have hby := Bd.bytes
  have hml : c.maxLocals = 3 := hml0
  have hown : s.vm.findClass "com/example/dataflow_to_dispatch/dataflowtodispatch/model/document/XmlElement" = some m.cls := findClass_of_methodNamed Bd.named
  have hnm := (name_of_methodNamed Bd.named Bd.method).1
  have X0 : Stand p l e ({ frames := 0, cells := 0, slots := 0, locals := 0 } : Room) s m #[(.ref a1), (.ref a2), (.ref a3)] below meth c s₁ [] 0 0 := Stand.of_body Bd
  have e0 : s₁.heap = h0 := by rw [← hh, Bd.state]; rfl
  have N0 := Fr.nil n0
  refine Go.done (Go.step (fun t k => castTop (ef_13_r m a1 a2 a3) k) ?_)
  have KK0 : Keep h0 h0 [a3, a2] := Keep.refl _ _
  show Go p e below _ (s₁.setTop (mkF m 0 #[.val (.ref a1), .val (.ref a2), .val (.ref a3)] []))
  refine Go.step (fun t k => XS.aloadN X0.here hx rfl (hb hby d13_0) rfl rfl k) ?_
  show Go p e below _ (s₁.setTop (mkF m 1 #[.val (.ref a1), .val (.ref a2), .val (.ref a3)] [(.ref a3)]))
  refine Go.step (fun t k => XS.aloadN X0.here hx rfl (hb hby d13_1) rfl rfl k) ?_
  show Go p e below _ (s₁.setTop (mkF m 2 #[.val (.ref a1), .val (.ref a2), .val (.ref a3)] [(.ref a1), (.ref a3)]))
  obtain ⟨T4, h4, X4, e4, W4, st4⟩ := putF X0 hx hZ hown (host := "") (Or.inl (hw _ (List.mem_of_getElem? (i := 92) rfl))) Via.refl e0 F_parent_a3 E_a3 (Or.inl (hw _ (List.mem_of_getElem? (i := 93) rfl))) (hw _ (List.mem_of_getElem? (i := 1) rfl)) (ty := (.object "com/example/dataflow_to_dispatch/dataflowtodispatch/model/document/XmlElement")) (by decide) rfl rfl (g := (mkF m 2 #[.val (.ref a1), .val (.ref a2), .val (.ref a3)] [(.ref a1), (.ref a3)])) rfl rfl (hb hby d13_2)
  refine Go.step st4 ?_
  have N4 := Fr.snoc X4 N0 g_a3
  have E_a2_4 := E_a2.wr W4
  have F_name_a2_4 := F_name_a2.other W4 (Or.inl hne_a2_a3)
  have F_previous_a2_4 := F_previous_a2.other W4 (Or.inl hne_a2_a3)
  have F_next_a2_4 := F_next_a2.other W4 (Or.inl hne_a2_a3)
  have E_a3_4 := E_a3.wr W4
  have F_name_a3_4 := F_name_a3.other W4 (Or.inr (slot_ne (Or.inr (hw _ (List.mem_of_getElem? (i := 62) rfl))) (Or.inl (hw _ (List.mem_of_getElem? (i := 93) rfl))) (by decide) (t := (.object "java/lang/String")) (t' := (.object "com/example/dataflow_to_dispatch/dataflowtodispatch/model/document/XmlElement")) (by decide) (by decide)))
  have F_previous_a3_4 := F_previous_a3.other W4 (Or.inr (slot_ne (Or.inl (hw _ (List.mem_of_getElem? (i := 95) rfl))) (Or.inl (hw _ (List.mem_of_getElem? (i := 93) rfl))) (by decide) (t := (.object "com/example/dataflow_to_dispatch/dataflowtodispatch/model/document/XmlElement")) (t' := (.object "com/example/dataflow_to_dispatch/dataflowtodispatch/model/document/XmlElement")) (by decide) (by decide)))
  have F_next_a3_4 := F_next_a3.other W4 (Or.inr (slot_ne (Or.inl (hw _ (List.mem_of_getElem? (i := 97) rfl))) (Or.inl (hw _ (List.mem_of_getElem? (i := 93) rfl))) (by decide) (t := (.object "com/example/dataflow_to_dispatch/dataflowtodispatch/model/document/XmlElement")) (t' := (.object "com/example/dataflow_to_dispatch/dataflowtodispatch/model/document/XmlElement")) (by decide) (by decide)))
  have Z4 := Nat.le_trans Z0 (Keep.of_wr W4).1
  have KK4 : Keep h0 h4 [a3, a2] := KK0.wr W4 (Or.inl (by simp))
  clear E_a2 F_name_a2 F_previous_a2 F_next_a2 E_a3 F_name_a3 F_previous_a3 F_next_a3 Z0 KK0
  have F_parent_a3_4 := F_parent_a3.same W4
  show Go p e below _ (T4.setTop (mkF m 5 #[.val (.ref a1), .val (.ref a2), .val (.ref a3)] []))
  refine Go.step (fun t k => XS.aloadN X4.here hx rfl (hb hby d13_5) rfl rfl k) ?_
  show Go p e below _ (T4.setTop (mkF m 6 #[.val (.ref a1), .val (.ref a2), .val (.ref a3)] [(.ref a3)]))
  refine Go.step (fun t k => XS.aloadN X4.here hx rfl (hb hby d13_6) rfl rfl k) ?_
  show Go p e below _ (T4.setTop (mkF m 7 #[.val (.ref a1), .val (.ref a2), .val (.ref a3)] [(.ref a2), (.ref a3)]))
  obtain ⟨T5, h5, X5, e5, W5, st5⟩ := putF X4 hx hZ hown (host := "") (Or.inl (hw _ (List.mem_of_getElem? (i := 94) rfl))) Via.refl e4 F_previous_a3_4 E_a3_4 (Or.inl (hw _ (List.mem_of_getElem? (i := 95) rfl))) (hw _ (List.mem_of_getElem? (i := 1) rfl)) (ty := (.object "com/example/dataflow_to_dispatch/dataflowtodispatch/model/document/XmlElement")) (by decide) rfl rfl (g := (mkF m 7 #[.val (.ref a1), .val (.ref a2), .val (.ref a3)] [(.ref a2), (.ref a3)])) rfl rfl (hb hby d13_7)
  refine Go.step st5 ?_
  have N5 := Fr.snoc X5 N4 g_a3
  have E_a2_5 := E_a2_4.wr W5
  have F_name_a2_5 := F_name_a2_4.other W5 (Or.inl hne_a2_a3)
  have F_previous_a2_5 := F_previous_a2_4.other W5 (Or.inl hne_a2_a3)
  have F_next_a2_5 := F_next_a2_4.other W5 (Or.inl hne_a2_a3)
  have E_a3_5 := E_a3_4.wr W5
  have F_name_a3_5 := F_name_a3_4.other W5 (Or.inr (slot_ne (Or.inr (hw _ (List.mem_of_getElem? (i := 62) rfl))) (Or.inl (hw _ (List.mem_of_getElem? (i := 95) rfl))) (by decide) (t := (.object "java/lang/String")) (t' := (.object "com/example/dataflow_to_dispatch/dataflowtodispatch/model/document/XmlElement")) (by decide) (by decide)))
  have F_parent_a3_5 := F_parent_a3_4.other W5 (Or.inr (slot_ne (Or.inl (hw _ (List.mem_of_getElem? (i := 93) rfl))) (Or.inl (hw _ (List.mem_of_getElem? (i := 95) rfl))) (by decide) (t := (.object "com/example/dataflow_to_dispatch/dataflowtodispatch/model/document/XmlElement")) (t' := (.object "com/example/dataflow_to_dispatch/dataflowtodispatch/model/document/XmlElement")) (by decide) (by decide)))
  have F_next_a3_5 := F_next_a3_4.other W5 (Or.inr (slot_ne (Or.inl (hw _ (List.mem_of_getElem? (i := 97) rfl))) (Or.inl (hw _ (List.mem_of_getElem? (i := 95) rfl))) (by decide) (t := (.object "com/example/dataflow_to_dispatch/dataflowtodispatch/model/document/XmlElement")) (t' := (.object "com/example/dataflow_to_dispatch/dataflowtodispatch/model/document/XmlElement")) (by decide) (by decide)))
  have Z5 := Nat.le_trans Z4 (Keep.of_wr W5).1
  have KK5 : Keep h0 h5 [a3, a2] := KK4.wr W5 (Or.inl (by simp))
  clear E_a2_4 F_name_a2_4 F_previous_a2_4 F_next_a2_4 E_a3_4 F_name_a3_4 F_parent_a3_4 F_next_a3_4 Z4 KK4
  have F_previous_a3_5 := F_previous_a3_4.same W5
  show Go p e below _ (T5.setTop (mkF m 10 #[.val (.ref a1), .val (.ref a2), .val (.ref a3)] []))
  refine Go.step (fun t k => XS.aloadN X5.here hx rfl (hb hby d13_10) rfl rfl k) ?_
  show Go p e below _ (T5.setTop (mkF m 11 #[.val (.ref a1), .val (.ref a2), .val (.ref a3)] [(.ref a2)]))
  refine Go.step (fun t k => XS.ifnonnullYes X5.here hx rfl (pc0 := 11) (pc' := 22) rfl (hb hby d13_11) rfl (by decide) (by decide) k) ?_
  show Go p e below _ (T5.setTop (mkF m 22 #[.val (.ref a1), .val (.ref a2), .val (.ref a3)] []))
  refine Go.step (fun t k => XS.aloadN X5.here hx rfl (hb hby d13_22) rfl rfl k) ?_
  show Go p e below _ (T5.setTop (mkF m 23 #[.val (.ref a1), .val (.ref a2), .val (.ref a3)] [(.ref a2)]))
  refine Go.step (fun t k => XS.aloadN X5.here hx rfl (hb hby d13_23) rfl rfl k) ?_
  show Go p e below _ (T5.setTop (mkF m 24 #[.val (.ref a1), .val (.ref a2), .val (.ref a3)] [(.ref a3), (.ref a2)]))
  obtain ⟨T6, h6, X6, e6, W6, st6⟩ := putF X5 hx hZ hown (host := "") (Or.inl (hw _ (List.mem_of_getElem? (i := 96) rfl))) Via.refl e5 F_next_a2_5 E_a2_5 (Or.inl (hw _ (List.mem_of_getElem? (i := 97) rfl))) (hw _ (List.mem_of_getElem? (i := 1) rfl)) (ty := (.object "com/example/dataflow_to_dispatch/dataflowtodispatch/model/document/XmlElement")) (by decide) rfl rfl (g := (mkF m 24 #[.val (.ref a1), .val (.ref a2), .val (.ref a3)] [(.ref a3), (.ref a2)])) rfl rfl (hb hby d13_24)
  refine Go.step st6 ?_
  have N6 := Fr.snoc X6 N5 g_a2
  have E_a2_6 := E_a2_5.wr W6
  have F_name_a2_6 := F_name_a2_5.other W6 (Or.inr (slot_ne (Or.inr (hw _ (List.mem_of_getElem? (i := 62) rfl))) (Or.inl (hw _ (List.mem_of_getElem? (i := 97) rfl))) (by decide) (t := (.object "java/lang/String")) (t' := (.object "com/example/dataflow_to_dispatch/dataflowtodispatch/model/document/XmlElement")) (by decide) (by decide)))
  have F_previous_a2_6 := F_previous_a2_5.other W6 (Or.inr (slot_ne (Or.inl (hw _ (List.mem_of_getElem? (i := 95) rfl))) (Or.inl (hw _ (List.mem_of_getElem? (i := 97) rfl))) (by decide) (t := (.object "com/example/dataflow_to_dispatch/dataflowtodispatch/model/document/XmlElement")) (t' := (.object "com/example/dataflow_to_dispatch/dataflowtodispatch/model/document/XmlElement")) (by decide) (by decide)))
  have E_a3_6 := E_a3_5.wr W6
  have F_name_a3_6 := F_name_a3_5.other W6 (Or.inl hne_a3_a2)
  have F_parent_a3_6 := F_parent_a3_5.other W6 (Or.inl hne_a3_a2)
  have F_previous_a3_6 := F_previous_a3_5.other W6 (Or.inl hne_a3_a2)
  have F_next_a3_6 := F_next_a3_5.other W6 (Or.inl hne_a3_a2)
  have Z6 := Nat.le_trans Z5 (Keep.of_wr W6).1
  have KK6 : Keep h0 h6 [a3, a2] := KK5.wr W6 (Or.inl (by simp))
  clear E_a2_5 F_name_a2_5 F_previous_a2_5 E_a3_5 F_name_a3_5 F_parent_a3_5 F_previous_a3_5 F_next_a3_5 Z5 KK5
  have F_next_a2_6 := F_next_a2_5.same W6
  show Go p e below _ (T6.setTop (mkF m 27 #[.val (.ref a1), .val (.ref a2), .val (.ref a3)] []))
  refine retGV X6 hx Bd.notSynchronized Bd.returns (hb hby d13_27) ?_ (by decide) (by decide)
  show Q13_r Z a1 a2 a3 u_name_a2 u_previous_a2 u_next_a2 u_name_a3 u_parent_a3 u_previous_a3 u_next_a3 h0 n0 _ T6.heap _
  rw [e6]
  exact ⟨rfl, N6, KK6, E_a2_6, F_name_a2_6, F_previous_a2_6, F_next_a2_6, E_a3_6, F_name_a3_6, F_parent_a3_6, F_previous_a3_6, F_next_a3_6⟩
theorem d12_0 : decode prog_109_method_14_code 0 = .ok (.aload_n 0, 1) := by decide +kernel
theorem d12_1 : decode prog_109_method_14_code 1 = .ok (.aload_n 0, 1) := by decide +kernel
theorem d12_2 : decode prog_109_method_14_code 2 = .ok (.getfield 119, 3) := by decide +kernel
theorem d12_5 : decode prog_109_method_14_code 5 = .ok (.aload_n 1, 1) := by decide +kernel
theorem d12_6 : decode prog_109_method_14_code 6 = .ok (.invokevirtual 122, 3) := by decide +kernel
theorem pd_11 : parseMethodDescriptor "(Lcom/example/dataflow_to_dispatch/dataflowtodispatch/model/document/XmlElement;Lcom/example/dataflow_to_dispatch/dataflowtodispatch/model/document/XmlElement;)V" = some ⟨[(.object "com/example/dataflow_to_dispatch/dataflowtodispatch/model/document/XmlElement"), (.object "com/example/dataflow_to_dispatch/dataflowtodispatch/model/document/XmlElement")], none⟩ := by decide +kernel
theorem d12_9 : decode prog_109_method_14_code 9 = .ok (.aload_n 0, 1) := by decide +kernel
theorem d12_10 : decode prog_109_method_14_code 10 = .ok (.aload_n 1, 1) := by decide +kernel
theorem d12_11 : decode prog_109_method_14_code 11 = .ok (.putfield 119, 3) := by decide +kernel
theorem d12_14 : decode prog_109_method_14_code 14 = .ok (.aload_n 1, 1) := by decide +kernel
theorem d12_15 : decode prog_109_method_14_code 15 = .ok (.areturn, 1) := by decide +kernel
theorem ef_12_n (m : MethodId) (a1 : Addr) (a2 : Addr) : entryFrame m #[(.ref a1), (.ref a2)] 2 = mkF m 0 #[.val (.ref a1), .val (.ref a2)] [] := by first | (simp [entryFrame, mkF, argsToLocals, Value.category]; done) | rfl
def Q12_n (Z : State) (a1 : Addr) (a2 : Addr) (u_firstChild_a1 : Value) (u_name_a2 : Value) (u_parent_a2 : Value) (u_previous_a2 : Value) (u_next_a2 : Value) (h0 : Heap) (n0 : Nat) (v : Option Value) (h : Heap) (L : List Loc) : Prop := v = some (.ref a2) ∧ Fr n0 L ∧ Keep h0 h [a2, a1] ∧ Exa Z h a1 "com/example/dataflow_to_dispatch/dataflowtodispatch/model/document/XmlElement" ∧ Exa Z h a2 "com/example/dataflow_to_dispatch/dataflowtodispatch/model/document/XmlElement" ∧ Fld Z h a1 "com/example/dataflow_to_dispatch/dataflowtodispatch/model/document/XmlElement" "lastChild" "Lcom/example/dataflow_to_dispatch/dataflowtodispatch/model/document/XmlElement;" (.ref a2) ∧ Fld Z h a1 "com/example/dataflow_to_dispatch/dataflowtodispatch/model/document/XmlElement" "firstChild" "Lcom/example/dataflow_to_dispatch/dataflowtodispatch/model/document/XmlElement;" (.ref a2) ∧ Fld Z h a2 "com/example/dataflow_to_dispatch/dataflowtodispatch/model/document/XmlElement" "name" "Ljava/lang/String;" u_name_a2 ∧ Fld Z h a2 "com/example/dataflow_to_dispatch/dataflowtodispatch/model/document/XmlElement" "parent" "Lcom/example/dataflow_to_dispatch/dataflowtodispatch/model/document/XmlElement;" (.ref a1) ∧ Fld Z h a2 "com/example/dataflow_to_dispatch/dataflowtodispatch/model/document/XmlElement" "previous" "Lcom/example/dataflow_to_dispatch/dataflowtodispatch/model/document/XmlElement;" .null ∧ Fld Z h a2 "com/example/dataflow_to_dispatch/dataflowtodispatch/model/document/XmlElement" "next" "Lcom/example/dataflow_to_dispatch/dataflowtodispatch/model/document/XmlElement;" u_next_a2
set_option maxRecDepth 65536 in
set_option maxHeartbeats 40000000 in
theorem rm12_n (l : Launch) (Z : State) (a0 : Array Value) (hw : ∀ d ∈ tables_1, d.before a0 Z = true) (ws : List Jvm.Cond) (a1 : Addr) (a2 : Addr) (u_firstChild_a1 : Value) (u_name_a2 : Value) (u_parent_a2 : Value) (u_previous_a2 : Value) (u_next_a2 : Value) (h0 : Heap) (n0 : Nat) (Z0 : n0 ≤ h0.size) (E_a1 : Exa Z h0 a1 "com/example/dataflow_to_dispatch/dataflowtodispatch/model/document/XmlElement") (F_firstChild_a1 : Fld Z h0 a1 "com/example/dataflow_to_dispatch/dataflowtodispatch/model/document/XmlElement" "firstChild" "Lcom/example/dataflow_to_dispatch/dataflowtodispatch/model/document/XmlElement;" u_firstChild_a1) (F_lastChild_a1 : Fld Z h0 a1 "com/example/dataflow_to_dispatch/dataflowtodispatch/model/document/XmlElement" "lastChild" "Lcom/example/dataflow_to_dispatch/dataflowtodispatch/model/document/XmlElement;" .null) (E_a2 : Exa Z h0 a2 "com/example/dataflow_to_dispatch/dataflowtodispatch/model/document/XmlElement") (F_name_a2 : Fld Z h0 a2 "com/example/dataflow_to_dispatch/dataflowtodispatch/model/document/XmlElement" "name" "Ljava/lang/String;" u_name_a2) (F_parent_a2 : Fld Z h0 a2 "com/example/dataflow_to_dispatch/dataflowtodispatch/model/document/XmlElement" "parent" "Lcom/example/dataflow_to_dispatch/dataflowtodispatch/model/document/XmlElement;" u_parent_a2) (F_previous_a2 : Fld Z h0 a2 "com/example/dataflow_to_dispatch/dataflowtodispatch/model/document/XmlElement" "previous" "Lcom/example/dataflow_to_dispatch/dataflowtodispatch/model/document/XmlElement;" u_previous_a2) (F_next_a2 : Fld Z h0 a2 "com/example/dataflow_to_dispatch/dataflowtodispatch/model/document/XmlElement" "next" "Lcom/example/dataflow_to_dispatch/dataflowtodispatch/model/document/XmlElement;" u_next_a2) (g_a2 : n0 ≤ a2) (g_a1 : n0 ≤ a1) (hne_a1_a2 : a1 ≠ a2) (hne_a2_a1 : a2 ≠ a1) :
    MetFree l (⟨"com/example/dataflow_to_dispatch/dataflowtodispatch/model/document/XmlElement", "append", "(Lcom/example/dataflow_to_dispatch/dataflowtodispatch/model/document/XmlElement;)Lcom/example/dataflow_to_dispatch/dataflowtodispatch/model/document/XmlElement;"⟩ : MethodName) (head1 (Jvm.Cond.code (⟨"com/example/dataflow_to_dispatch/dataflowtodispatch/model/document/XmlElement", "append", "(Lcom/example/dataflow_to_dispatch/dataflowtodispatch/model/document/XmlElement;)Lcom/example/dataflow_to_dispatch/dataflowtodispatch/model/document/XmlElement;"⟩ : MethodName) prog_109_method_14_code 2 (some (.object "com/example/dataflow_to_dispatch/dataflowtodispatch/model/document/XmlElement")) :: ws) ({ frames := 1, cells := 0, slots := 0, locals := 14 } : Room)) (fun a U => a = #[(.ref a1), (.ref a2)] ∧ Z.Warmed39 U.vm ∧ U.heap = h0) (fun _ _ _ _ _ => True) (fun _ U o U' => ∃ v L, o = .returned v ∧ Q12_n Z a1 a2 u_firstChild_a1 u_name_a2 u_parent_a2 u_previous_a2 u_next_a2 h0 n0 v U'.heap L ∧ FrameEnd U o U' L ({ frames := 1, cells := 0, slots := 0, locals := 14 } : Room).cells ({ frames := 1, cells := 0, slots := 0, locals := 14 } : Room).slots) := by
  refine MetFree.of_bodySF (plainFor_of_name pn_5) hisR ?_
  intro p e s m args below meth c s₁ Bd hml0 hP hK
  obtain ⟨rfl, hZ, hh⟩ := hP
  have hx := Bd.exec
  have hby := Bd.bytes
  have hml : c.maxLocals = 2 := hml0
  have hown : s.vm.findClass "com/example/dataflow_to_dispatch/dataflowtodispatch/model/document/XmlElement" = some m.cls := findClass_of_methodNamed Bd.named
  have hnm := (name_of_methodNamed Bd.named Bd.method).1
  have X0 : Stand p l e ({ frames := 1, cells := 0, slots := 0, locals := 14 } : Room) s m #[(.ref a1), (.ref a2)] below meth c s₁ [] 0 0 := Stand.of_body Bd
  have e0 : s₁.heap = h0 := by rw [← hh, Bd.state]; rfl
  have N0 := Fr.nil n0
  refine Go.done (Go.step (fun t k => castTop (ef_12_n m a1 a2) k) ?_)
  have KK0 : Keep h0 h0 [a2, a1] := Keep.refl _ _
  show Go p e below _ (s₁.setTop (mkF m 0 #[.val (.ref a1), .val (.ref a2)] []))
  refine Go.step (fun t k => XS.aloadN X0.here hx rfl (hb hby d12_0) rfl rfl k) ?_
  show Go p e below _ (s₁.setTop (mkF m 1 #[.val (.ref a1), .val (.ref a2)] [(.ref a1)]))
  refine Go.step (fun t k => XS.aloadN X0.here hx rfl (hb hby d12_1) rfl rfl k) ?_
  show Go p e below _ (s₁.setTop (mkF m 2 #[.val (.ref a1), .val (.ref a2)] [(.ref a1), (.ref a1)]))
  obtain ⟨T3, X3, e3, st3⟩ := getF X0 hx hZ hown (host := "") (Or.inl (hw _ (List.mem_of_getElem? (i := 86) rfl))) Via.refl e0 F_lastChild_a1 (g := (mkF m 2 #[.val (.ref a1), .val (.ref a2)] [(.ref a1), (.ref a1)])) rfl rfl (hb hby d12_2)
  refine Go.step st3 ?_
  show Go p e below _ (T3.setTop (mkF m 5 #[.val (.ref a1), .val (.ref a2)] [.null, (.ref a1)]))
  refine Go.step (fun t k => XS.aloadN X3.here hx rfl (hb hby d12_5) rfl rfl k) ?_
  show Go p e below _ (T3.setTop (mkF m 6 #[.val (.ref a1), .val (.ref a2)] [(.ref a2), .null, (.ref a1)]))
  obtain ⟨cq4, q4, q4'⟩ := E_a1.cell
  obtain ⟨_, _, ⟨T4, L4, k4, n4⟩, -, X4, ⟨Lc4, hQ4, l4, y4, z4⟩, st4⟩ := X3.privateBack hx (y := (⟨"com/example/dataflow_to_dispatch/dataflowtodispatch/model/document/XmlElement", "linkAfter", "(Lcom/example/dataflow_to_dispatch/dataflowtodispatch/model/document/XmlElement;Lcom/example/dataflow_to_dispatch/dataflowtodispatch/model/document/XmlElement;)V"⟩ : MethodName)) hown (mvT hZ (hw _ (List.mem_of_getElem? (i := 88) rfl))) (mvT hZ (hw _ (List.mem_of_getElem? (i := 89) rfl))) (selP (mvT hZ (hw _ (List.mem_of_getElem? (i := 66) rfl))) rfl (Cond.privateMethod_at (mvP hZ (hw _ (List.mem_of_getElem? (i := 90) rfl)) (args := #[]))) (mvT hZ (hw _ (List.mem_of_getElem? (i := 89) rfl))) (by decide)) (Cond.privateMethod_at (mvP hZ (hw _ (List.mem_of_getElem? (i := 90) rfl)) (args := #[]))) (mvT hZ (hw _ (List.mem_of_getElem? (i := 91) rfl))) (by decide) (backOf (W := 0) (rm13_n l Z a0 hw [] a1 a2 .null u_firstChild_a1 u_name_a2 u_parent_a2 u_previous_a2 u_next_a2 h0 n0 Z0 E_a1 F_lastChild_a1 F_firstChild_a1 E_a2 F_name_a2 F_parent_a2 F_previous_a2 F_next_a2 g_a2 hne_a1_a2 g_a1 hne_a2_a1) hZ (hw _ (List.mem_of_getElem? (i := 91) rfl)) (hw _ (List.mem_of_getElem? (i := 2) rfl)) (by decide) (by decide)) (g := (mkF m 6 #[.val (.ref a1), .val (.ref a2)] [(.ref a2), .null, (.ref a1)])) rfl (by rw [hml]; rfl) (Steps.refl _) (a := a1) (by rw [e3]; exact q4) q4' (argsL := [.null, (.ref a2)]) (rest := []) (lenOf pd_11 rfl) rfl (by show 2 * 0 + _ ≤ _; exact Nat.le_of_eq rfl) (hb hby d12_6) (fun _ _ => ⟨rfl, e3, (by decide : 0 + 0 ≤ _), (by decide : 0 + 0 ≤ _)⟩)
  dsimp only [Pt.U, Pt.locs, Pt.cells, Pt.slots] at X4 l4 y4 z4 st4 hQ4
  subst l4 y4 z4
  obtain ⟨rfl, N4q, K4, Q4_0, Q4_1, Q4_2, Q4_3, Q4_4, Q4_5, Q4_6, Q4_7⟩ := hQ4
  have N4 := Fr.app N0 N4q
  have E_a1_4 := E_a1.keep K4
  have E_a2_4 := E_a2.keep K4
  have Z4 := Nat.le_trans Z0 K4.1
  have KK4 : Keep h0 T4.heap [a2, a1] := KK0.trans K4 (allS (Or.inl (by simp)) (allS (Or.inl (by simp)) all0))
  clear E_a1 E_a2 Z0 KK0 K4
  refine Go.trans st4 ?_
  show Go p e below _ (T4.setTop (mkF m 9 #[.val (.ref a1), .val (.ref a2)] []))
  refine Go.step (fun t k => XS.aloadN X4.here hx rfl (hb hby d12_9) rfl rfl k) ?_
  show Go p e below _ (T4.setTop (mkF m 10 #[.val (.ref a1), .val (.ref a2)] [(.ref a1)]))
  refine Go.step (fun t k => XS.aloadN X4.here hx rfl (hb hby d12_10) rfl rfl k) ?_
  show Go p e below _ (T4.setTop (mkF m 11 #[.val (.ref a1), .val (.ref a2)] [(.ref a2), (.ref a1)]))
  obtain ⟨T5, h5, X5, e5, W5, st5⟩ := putF X4 hx hZ hown (host := "") (Or.inl (hw _ (List.mem_of_getElem? (i := 86) rfl))) Via.refl rfl Q4_1 Q4_0 (Or.inl (hw _ (List.mem_of_getElem? (i := 87) rfl))) (hw _ (List.mem_of_getElem? (i := 1) rfl)) (ty := (.object "com/example/dataflow_to_dispatch/dataflowtodispatch/model/document/XmlElement")) (by decide) rfl rfl (g := (mkF m 11 #[.val (.ref a1), .val (.ref a2)] [(.ref a2), (.ref a1)])) rfl rfl (hb hby d12_11)
  refine Go.step st5 ?_
  have N5 := Fr.snoc X5 N4 g_a1
  have E_a1_5 := Q4_0.wr W5
  have E_a2_5 := Q4_3.wr W5
  have F_firstChild_a1_5 := Q4_2.other W5 (Or.inr (slot_ne (Or.inl (hw _ (List.mem_of_getElem? (i := 69) rfl))) (Or.inl (hw _ (List.mem_of_getElem? (i := 87) rfl))) (by decide) (t := (.object "com/example/dataflow_to_dispatch/dataflowtodispatch/model/document/XmlElement")) (t' := (.object "com/example/dataflow_to_dispatch/dataflowtodispatch/model/document/XmlElement")) (by decide) (by decide)))
  have F_name_a2_5 := Q4_4.other W5 (Or.inl hne_a2_a1)
  have F_parent_a2_5 := Q4_5.other W5 (Or.inl hne_a2_a1)
  have F_previous_a2_5 := Q4_6.other W5 (Or.inl hne_a2_a1)
  have F_next_a2_5 := Q4_7.other W5 (Or.inl hne_a2_a1)
  have Z5 := Nat.le_trans Z4 (Keep.of_wr W5).1
  have KK5 : Keep h0 h5 [a2, a1] := KK4.wr W5 (Or.inl (by simp))
  clear Q4_0 Q4_3 Q4_2 Q4_4 Q4_5 Q4_6 Q4_7 Z4 KK4
  have F_lastChild_a1_5 := Q4_1.same W5
  show Go p e below _ (T5.setTop (mkF m 14 #[.val (.ref a1), .val (.ref a2)] []))
  refine Go.step (fun t k => XS.aloadN X5.here hx rfl (hb hby d12_14) rfl rfl k) ?_
  show Go p e below _ (T5.setTop (mkF m 15 #[.val (.ref a1), .val (.ref a2)] [(.ref a2)]))
  refine retGR X5 hx Bd.notSynchronized Bd.returns rfl rfl (hb hby d12_15) ?_ (by decide) (by decide)
  show Q12_n Z a1 a2 u_firstChild_a1 u_name_a2 u_parent_a2 u_previous_a2 u_next_a2 h0 n0 _ T5.heap _
  rw [e5]
  exact ⟨rfl, N5, KK5, E_a1_5, E_a2_5, F_lastChild_a1_5, F_firstChild_a1_5, F_name_a2_5, F_parent_a2_5, F_previous_a2_5, F_next_a2_5⟩
theorem ef_12_r (m : MethodId) (a1 : Addr) (a2 : Addr) : entryFrame m #[(.ref a1), (.ref a2)] 2 = mkF m 0 #[.val (.ref a1), .val (.ref a2)] [] := by first | (simp [entryFrame, mkF, argsToLocals, Value.category]; done) | rfl
def Q12_r (Z : State) (a1 : Addr) (a2 : Addr) (u_firstChild_a1 : Value) (o_lastChild_a1 : Addr) (u_name_o_lastChild_a1 : Value) (u_previous_o_lastChild_a1 : Value) (u_next_o_lastChild_a1 : Value) (u_name_a2 : Value) (u_parent_a2 : Value) (u_previous_a2 : Value) (u_next_a2 : Value) (h0 : Heap) (n0 : Nat) (v : Option Value) (h : Heap) (L : List Loc) : Prop := v = some (.ref a2) ∧ Fr n0 L ∧ Keep h0 h [a2, o_lastChild_a1, a1] ∧ Exa Z h a1 "com/example/dataflow_to_dispatch/dataflowtodispatch/model/document/XmlElement" ∧ Fld Z h a1 "com/example/dataflow_to_dispatch/dataflowtodispatch/model/document/XmlElement" "firstChild" "Lcom/example/dataflow_to_dispatch/dataflowtodispatch/model/document/XmlElement;" u_firstChild_a1 ∧ Fld Z h a1 "com/example/dataflow_to_dispatch/dataflowtodispatch/model/document/XmlElement" "lastChild" "Lcom/example/dataflow_to_dispatch/dataflowtodispatch/model/document/XmlElement;" (.ref a2) ∧ Exa Z h o_lastChild_a1 "com/example/dataflow_to_dispatch/dataflowtodispatch/model/document/XmlElement" ∧ Exa Z h a2 "com/example/dataflow_to_dispatch/dataflowtodispatch/model/document/XmlElement" ∧ Fld Z h o_lastChild_a1 "com/example/dataflow_to_dispatch/dataflowtodispatch/model/document/XmlElement" "name" "Ljava/lang/String;" u_name_o_lastChild_a1 ∧ Fld Z h o_lastChild_a1 "com/example/dataflow_to_dispatch/dataflowtodispatch/model/document/XmlElement" "previous" "Lcom/example/dataflow_to_dispatch/dataflowtodispatch/model/document/XmlElement;" u_previous_o_lastChild_a1 ∧ Fld Z h o_lastChild_a1 "com/example/dataflow_to_dispatch/dataflowtodispatch/model/document/XmlElement" "next" "Lcom/example/dataflow_to_dispatch/dataflowtodispatch/model/document/XmlElement;" (.ref a2) ∧ Fld Z h a2 "com/example/dataflow_to_dispatch/dataflowtodispatch/model/document/XmlElement" "name" "Ljava/lang/String;" u_name_a2 ∧ Fld Z h a2 "com/example/dataflow_to_dispatch/dataflowtodispatch/model/document/XmlElement" "parent" "Lcom/example/dataflow_to_dispatch/dataflowtodispatch/model/document/XmlElement;" (.ref a1) ∧ Fld Z h a2 "com/example/dataflow_to_dispatch/dataflowtodispatch/model/document/XmlElement" "previous" "Lcom/example/dataflow_to_dispatch/dataflowtodispatch/model/document/XmlElement;" (.ref o_lastChild_a1) ∧ Fld Z h a2 "com/example/dataflow_to_dispatch/dataflowtodispatch/model/document/XmlElement" "next" "Lcom/example/dataflow_to_dispatch/dataflowtodispatch/model/document/XmlElement;" u_next_a2
set_option maxRecDepth 65536 in
set_option maxHeartbeats 40000000 in
theorem rm12_r (l : Launch) (Z : State) (a0 : Array Value) (hw : ∀ d ∈ tables_1, d.before a0 Z = true) (ws : List Jvm.Cond) (a1 : Addr) (a2 : Addr) (u_firstChild_a1 : Value) (o_lastChild_a1 : Addr) (u_name_o_lastChild_a1 : Value) (u_previous_o_lastChild_a1 : Value) (u_next_o_lastChild_a1 : Value) (u_name_a2 : Value) (u_parent_a2 : Value) (u_previous_a2 : Value) (u_next_a2 : Value) (h0 : Heap) (n0 : Nat) (Z0 : n0 ≤ h0.size) (E_a1 : Exa Z h0 a1 "com/example/dataflow_to_dispatch/dataflowtodispatch/model/document/XmlElement") (F_firstChild_a1 : Fld Z h0 a1 "com/example/dataflow_to_dispatch/dataflowtodispatch/model/document/XmlElement" "firstChild" "Lcom/example/dataflow_to_dispatch/dataflowtodispatch/model/document/XmlElement;" u_firstChild_a1) (F_lastChild_a1 : Fld Z h0 a1 "com/example/dataflow_to_dispatch/dataflowtodispatch/model/document/XmlElement" "lastChild" "Lcom/example/dataflow_to_dispatch/dataflowtodispatch/model/document/XmlElement;" (.ref o_lastChild_a1)) (E_o_lastChild_a1 : Exa Z h0 o_lastChild_a1 "com/example/dataflow_to_dispatch/dataflowtodispatch/model/document/XmlElement") (F_name_o_lastChild_a1 : Fld Z h0 o_lastChild_a1 "com/example/dataflow_to_dispatch/dataflowtodispatch/model/document/XmlElement" "name" "Ljava/lang/String;" u_name_o_lastChild_a1) (F_previous_o_lastChild_a1 : Fld Z h0 o_lastChild_a1 "com/example/dataflow_to_dispatch/dataflowtodispatch/model/document/XmlElement" "previous" "Lcom/example/dataflow_to_dispatch/dataflowtodispatch/model/document/XmlElement;" u_previous_o_lastChild_a1) (F_next_o_lastChild_a1 : Fld Z h0 o_lastChild_a1 "com/example/dataflow_to_dispatch/dataflowtodispatch/model/document/XmlElement" "next" "Lcom/example/dataflow_to_dispatch/dataflowtodispatch/model/document/XmlElement;" u_next_o_lastChild_a1) (E_a2 : Exa Z h0 a2 "com/example/dataflow_to_dispatch/dataflowtodispatch/model/document/XmlElement") (F_name_a2 : Fld Z h0 a2 "com/example/dataflow_to_dispatch/dataflowtodispatch/model/document/XmlElement" "name" "Ljava/lang/String;" u_name_a2) (F_parent_a2 : Fld Z h0 a2 "com/example/dataflow_to_dispatch/dataflowtodispatch/model/document/XmlElement" "parent" "Lcom/example/dataflow_to_dispatch/dataflowtodispatch/model/document/XmlElement;" u_parent_a2) (F_previous_a2 : Fld Z h0 a2 "com/example/dataflow_to_dispatch/dataflowtodispatch/model/document/XmlElement" "previous" "Lcom/example/dataflow_to_dispatch/dataflowtodispatch/model/document/XmlElement;" u_previous_a2) (F_next_a2 : Fld Z h0 a2 "com/example/dataflow_to_dispatch/dataflowtodispatch/model/document/XmlElement" "next" "Lcom/example/dataflow_to_dispatch/dataflowtodispatch/model/document/XmlElement;" u_next_a2) (g_a2 : n0 ≤ a2) (g_o_lastChild_a1 : n0 ≤ o_lastChild_a1) (hne_o_lastChild_a1_a2 : o_lastChild_a1 ≠ a2) (hne_a2_o_lastChild_a1 : a2 ≠ o_lastChild_a1) (hne_a1_o_lastChild_a1 : a1 ≠ o_lastChild_a1) (hne_a1_a2 : a1 ≠ a2) (g_a1 : n0 ≤ a1) (hne_o_lastChild_a1_a1 : o_lastChild_a1 ≠ a1) (hne_a2_a1 : a2 ≠ a1) :
    MetFree l (⟨"com/example/dataflow_to_dispatch/dataflowtodispatch/model/document/XmlElement", "append", "(Lcom/example/dataflow_to_dispatch/dataflowtodispatch/model/document/XmlElement;)Lcom/example/dataflow_to_dispatch/dataflowtodispatch/model/document/XmlElement;"⟩ : MethodName) (head1 (Jvm.Cond.code (⟨"com/example/dataflow_to_dispatch/dataflowtodispatch/model/document/XmlElement", "append", "(Lcom/example/dataflow_to_dispatch/dataflowtodispatch/model/document/XmlElement;)Lcom/example/dataflow_to_dispatch/dataflowtodispatch/model/document/XmlElement;"⟩ : MethodName) prog_109_method_14_code 2 (some (.object "com/example/dataflow_to_dispatch/dataflowtodispatch/model/document/XmlElement")) :: ws) ({ frames := 1, cells := 0, slots := 0, locals := 14 } : Room)) (fun a U => a = #[(.ref a1), (.ref a2)] ∧ Z.Warmed39 U.vm ∧ U.heap = h0) (fun _ _ _ _ _ => True) (fun _ U o U' => ∃ v L, o = .returned v ∧ Q12_r Z a1 a2 u_firstChild_a1 o_lastChild_a1 u_name_o_lastChild_a1 u_previous_o_lastChild_a1 u_next_o_lastChild_a1 u_name_a2 u_parent_a2 u_previous_a2 u_next_a2 h0 n0 v U'.heap L ∧ FrameEnd U o U' L ({ frames := 1, cells := 0, slots := 0, locals := 14 } : Room).cells ({ frames := 1, cells := 0, slots := 0, locals := 14 } : Room).slots) := by
  refine MetFree.of_bodySF (plainFor_of_name pn_5) hisR ?_
  intro p e s m args below meth c s₁ Bd hml0 hP hK
  obtain ⟨rfl, hZ, hh⟩ := hP
  have hx := Bd.exec
  have hby := Bd.bytes
  have hml : c.maxLocals = 2 := hml0
  have hown : s.vm.findClass "com/example/dataflow_to_dispatch/dataflowtodispatch/model/document/XmlElement" = some m.cls := findClass_of_methodNamed Bd.named
  have hnm := (name_of_methodNamed Bd.named Bd.method).1
  have X0 : Stand p l e ({ frames := 1, cells := 0, slots := 0, locals := 14 } : Room) s m #[(.ref a1), (.ref a2)] below meth c s₁ [] 0 0 := Stand.of_body Bd
  have e0 : s₁.heap = h0 := by rw [← hh, Bd.state]; rfl
  have N0 := Fr.nil n0
  refine Go.done (Go.step (fun t k => castTop (ef_12_r m a1 a2) k) ?_)
  have KK0 : Keep h0 h0 [a2, o_lastChild_a1, a1] := Keep.refl _ _
  show Go p e below _ (s₁.setTop (mkF m 0 #[.val (.ref a1), .val (.ref a2)] []))
  refine Go.step (fun t k => XS.aloadN X0.here hx rfl (hb hby d12_0) rfl rfl k) ?_
  show Go p e below _ (s₁.setTop (mkF m 1 #[.val (.ref a1), .val (.ref a2)] [(.ref a1)]))
  refine Go.step (fun t k => XS.aloadN X0.here hx rfl (hb hby d12_1) rfl rfl k) ?_
  show Go p e below _ (s₁.setTop (mkF m 2 #[.val (.ref a1), .val (.ref a2)] [(.ref a1), (.ref a1)]))
  obtain ⟨T3, X3, e3, st3⟩ := getF X0 hx hZ hown (host := "") (Or.inl (hw _ (List.mem_of_getElem? (i := 86) rfl))) Via.refl e0 F_lastChild_a1 (g := (mkF m 2 #[.val (.ref a1), .val (.ref a2)] [(.ref a1), (.ref a1)])) rfl rfl (hb hby d12_2)
  refine Go.step st3 ?_
  show Go p e below _ (T3.setTop (mkF m 5 #[.val (.ref a1), .val (.ref a2)] [(.ref o_lastChild_a1), (.ref a1)]))
  refine Go.step (fun t k => XS.aloadN X3.here hx rfl (hb hby d12_5) rfl rfl k) ?_
  show Go p e below _ (T3.setTop (mkF m 6 #[.val (.ref a1), .val (.ref a2)] [(.ref a2), (.ref o_lastChild_a1), (.ref a1)]))
  obtain ⟨cq4, q4, q4'⟩ := E_a1.cell
  obtain ⟨_, _, ⟨T4, L4, k4, n4⟩, -, X4, ⟨Lc4, hQ4, l4, y4, z4⟩, st4⟩ := X3.privateBack hx (y := (⟨"com/example/dataflow_to_dispatch/dataflowtodispatch/model/document/XmlElement", "linkAfter", "(Lcom/example/dataflow_to_dispatch/dataflowtodispatch/model/document/XmlElement;Lcom/example/dataflow_to_dispatch/dataflowtodispatch/model/document/XmlElement;)V"⟩ : MethodName)) hown (mvT hZ (hw _ (List.mem_of_getElem? (i := 88) rfl))) (mvT hZ (hw _ (List.mem_of_getElem? (i := 89) rfl))) (selP (mvT hZ (hw _ (List.mem_of_getElem? (i := 66) rfl))) rfl (Cond.privateMethod_at (mvP hZ (hw _ (List.mem_of_getElem? (i := 90) rfl)) (args := #[]))) (mvT hZ (hw _ (List.mem_of_getElem? (i := 89) rfl))) (by decide)) (Cond.privateMethod_at (mvP hZ (hw _ (List.mem_of_getElem? (i := 90) rfl)) (args := #[]))) (mvT hZ (hw _ (List.mem_of_getElem? (i := 91) rfl))) (by decide) (backOf (W := 0) (rm13_r l Z a0 hw [] a1 o_lastChild_a1 a2 u_name_o_lastChild_a1 u_previous_o_lastChild_a1 u_next_o_lastChild_a1 u_name_a2 u_parent_a2 u_previous_a2 u_next_a2 h0 n0 Z0 E_o_lastChild_a1 F_name_o_lastChild_a1 F_previous_o_lastChild_a1 F_next_o_lastChild_a1 E_a2 F_name_a2 F_parent_a2 F_previous_a2 F_next_a2 g_a2 hne_o_lastChild_a1_a2 g_o_lastChild_a1 hne_a2_o_lastChild_a1) hZ (hw _ (List.mem_of_getElem? (i := 91) rfl)) (hw _ (List.mem_of_getElem? (i := 2) rfl)) (by decide) (by decide)) (g := (mkF m 6 #[.val (.ref a1), .val (.ref a2)] [(.ref a2), (.ref o_lastChild_a1), (.ref a1)])) rfl (by rw [hml]; rfl) (Steps.refl _) (a := a1) (by rw [e3]; exact q4) q4' (argsL := [(.ref o_lastChild_a1), (.ref a2)]) (rest := []) (lenOf pd_11 rfl) rfl (by show 2 * 0 + _ ≤ _; exact Nat.le_of_eq rfl) (hb hby d12_6) (fun _ _ => ⟨rfl, e3, (by decide : 0 + 0 ≤ _), (by decide : 0 + 0 ≤ _)⟩)
  dsimp only [Pt.U, Pt.locs, Pt.cells, Pt.slots] at X4 l4 y4 z4 st4 hQ4
  subst l4 y4 z4
  obtain ⟨rfl, N4q, K4, Q4_0, Q4_1, Q4_2, Q4_3, Q4_4, Q4_5, Q4_6, Q4_7, Q4_8⟩ := hQ4
  have N4 := Fr.app N0 N4q
  have E_a1_4 := E_a1.keep K4
  have F_firstChild_a1_4 := F_firstChild_a1.keep K4 (ninS hne_a1_a2 (ninS hne_a1_o_lastChild_a1 nin0))
  have F_lastChild_a1_4 := F_lastChild_a1.keep K4 (ninS hne_a1_a2 (ninS hne_a1_o_lastChild_a1 nin0))
  have E_o_lastChild_a1_4 := E_o_lastChild_a1.keep K4
  have E_a2_4 := E_a2.keep K4
  have Z4 := Nat.le_trans Z0 K4.1
  have KK4 : Keep h0 T4.heap [a2, o_lastChild_a1, a1] := KK0.trans K4 (allS (Or.inl (by simp)) (allS (Or.inl (by simp)) all0))
  clear E_a1 F_firstChild_a1 F_lastChild_a1 E_o_lastChild_a1 E_a2 Z0 KK0 K4
  refine Go.trans st4 ?_
  show Go p e below _ (T4.setTop (mkF m 9 #[.val (.ref a1), .val (.ref a2)] []))
  refine Go.step (fun t k => XS.aloadN X4.here hx rfl (hb hby d12_9) rfl rfl k) ?_
  show Go p e below _ (T4.setTop (mkF m 10 #[.val (.ref a1), .val (.ref a2)] [(.ref a1)]))
  refine Go.step (fun t k => XS.aloadN X4.here hx rfl (hb hby d12_10) rfl rfl k) ?_
  show Go p e below _ (T4.setTop (mkF m 11 #[.val (.ref a1), .val (.ref a2)] [(.ref a2), (.ref a1)]))
  obtain ⟨T5, h5, X5, e5, W5, st5⟩ := putF X4 hx hZ hown (host := "") (Or.inl (hw _ (List.mem_of_getElem? (i := 86) rfl))) Via.refl rfl F_lastChild_a1_4 E_a1_4 (Or.inl (hw _ (List.mem_of_getElem? (i := 87) rfl))) (hw _ (List.mem_of_getElem? (i := 1) rfl)) (ty := (.object "com/example/dataflow_to_dispatch/dataflowtodispatch/model/document/XmlElement")) (by decide) rfl rfl (g := (mkF m 11 #[.val (.ref a1), .val (.ref a2)] [(.ref a2), (.ref a1)])) rfl rfl (hb hby d12_11)
  refine Go.step st5 ?_
  have N5 := Fr.snoc X5 N4 g_a1
  have E_a1_5 := E_a1_4.wr W5
  have F_firstChild_a1_5 := F_firstChild_a1_4.other W5 (Or.inr (slot_ne (Or.inl (hw _ (List.mem_of_getElem? (i := 69) rfl))) (Or.inl (hw _ (List.mem_of_getElem? (i := 87) rfl))) (by decide) (t := (.object "com/example/dataflow_to_dispatch/dataflowtodispatch/model/document/XmlElement")) (t' := (.object "com/example/dataflow_to_dispatch/dataflowtodispatch/model/document/XmlElement")) (by decide) (by decide)))
  have E_o_lastChild_a1_5 := Q4_0.wr W5
  have E_a2_5 := Q4_4.wr W5
  have F_name_o_lastChild_a1_5 := Q4_1.other W5 (Or.inl hne_o_lastChild_a1_a1)
  have F_previous_o_lastChild_a1_5 := Q4_2.other W5 (Or.inl hne_o_lastChild_a1_a1)
  have F_next_o_lastChild_a1_5 := Q4_3.other W5 (Or.inl hne_o_lastChild_a1_a1)
  have F_name_a2_5 := Q4_5.other W5 (Or.inl hne_a2_a1)
  have F_parent_a2_5 := Q4_6.other W5 (Or.inl hne_a2_a1)
  have F_previous_a2_5 := Q4_7.other W5 (Or.inl hne_a2_a1)
  have F_next_a2_5 := Q4_8.other W5 (Or.inl hne_a2_a1)
  have Z5 := Nat.le_trans Z4 (Keep.of_wr W5).1
  have KK5 : Keep h0 h5 [a2, o_lastChild_a1, a1] := KK4.wr W5 (Or.inl (by simp))
  clear E_a1_4 F_firstChild_a1_4 Q4_0 Q4_4 Q4_1 Q4_2 Q4_3 Q4_5 Q4_6 Q4_7 Q4_8 Z4 KK4
  have F_lastChild_a1_5 := F_lastChild_a1_4.same W5
  show Go p e below _ (T5.setTop (mkF m 14 #[.val (.ref a1), .val (.ref a2)] []))
  refine Go.step (fun t k => XS.aloadN X5.here hx rfl (hb hby d12_14) rfl rfl k) ?_
  show Go p e below _ (T5.setTop (mkF m 15 #[.val (.ref a1), .val (.ref a2)] [(.ref a2)]))
  refine retGR X5 hx Bd.notSynchronized Bd.returns rfl rfl (hb hby d12_15) ?_ (by decide) (by decide)
  show Q12_r Z a1 a2 u_firstChild_a1 o_lastChild_a1 u_name_o_lastChild_a1 u_previous_o_lastChild_a1 u_next_o_lastChild_a1 u_name_a2 u_parent_a2 u_previous_a2 u_next_a2 h0 n0 _ T5.heap _
  rw [e5]
  exact ⟨rfl, N5, KK5, E_a1_5, F_firstChild_a1_5, F_lastChild_a1_5, E_o_lastChild_a1_5, E_a2_5, F_name_o_lastChild_a1_5, F_previous_o_lastChild_a1_5, F_next_o_lastChild_a1_5, F_name_a2_5, F_parent_a2_5, F_previous_a2_5, F_next_a2_5⟩
theorem d25_0 : decode jdk_43_method_13_code 0 = .ok (.aload_n 0, 1) := by decide +kernel
theorem d25_1 : decode jdk_43_method_13_code 1 = .ok (.arraylength, 1) := by decide +kernel
theorem d25_2 : decode jdk_43_method_13_code 2 = .ok (.aload_n 1, 1) := by decide +kernel
theorem d25_3 : decode jdk_43_method_13_code 3 = .ok (.arraylength, 1) := by decide +kernel
theorem d25_4 : decode jdk_43_method_13_code 4 = .ok (.if_icmp .ne 30, 3) := by decide +kernel
theorem d25_7 : decode jdk_43_method_13_code 7 = .ok (.iconst 0, 1) := by decide +kernel
theorem d25_8 : decode jdk_43_method_13_code 8 = .ok (.istore_n 2, 1) := by decide +kernel
theorem d25_9 : decode jdk_43_method_13_code 9 = .ok (.iload_n 2, 1) := by decide +kernel
theorem d25_10 : decode jdk_43_method_13_code 10 = .ok (.aload_n 0, 1) := by decide +kernel
theorem d25_11 : decode jdk_43_method_13_code 11 = .ok (.arraylength, 1) := by decide +kernel
theorem d25_12 : decode jdk_43_method_13_code 12 = .ok (.if_icmp .ge 20, 3) := by decide +kernel
theorem d25_15 : decode jdk_43_method_13_code 15 = .ok (.aload_n 0, 1) := by decide +kernel
theorem d25_16 : decode jdk_43_method_13_code 16 = .ok (.iload_n 2, 1) := by decide +kernel
theorem d25_17 : decode jdk_43_method_13_code 17 = .ok (.baload, 1) := by decide +kernel
theorem d25_18 : decode jdk_43_method_13_code 18 = .ok (.aload_n 1, 1) := by decide +kernel
theorem d25_19 : decode jdk_43_method_13_code 19 = .ok (.iload_n 2, 1) := by decide +kernel
theorem d25_20 : decode jdk_43_method_13_code 20 = .ok (.baload, 1) := by decide +kernel
theorem d25_21 : decode jdk_43_method_13_code 21 = .ok (.if_icmp .eq 5, 3) := by decide +kernel
theorem d25_26 : decode jdk_43_method_13_code 26 = .ok (.iinc 2 1, 3) := by decide +kernel
theorem d25_29 : decode jdk_43_method_13_code 29 = .ok (.goto (-20), 3) := by decide +kernel
theorem d25_32 : decode jdk_43_method_13_code 32 = .ok (.iconst 1, 1) := by decide +kernel
theorem d25_33 : decode jdk_43_method_13_code 33 = .ok (.ireturn, 1) := by decide +kernel
theorem d25_24 : decode jdk_43_method_13_code 24 = .ok (.iconst 0, 1) := by decide +kernel
theorem d25_25 : decode jdk_43_method_13_code 25 = .ok (.ireturn, 1) := by decide +kernel
theorem ef_25 (m : MethodId) (a1 : Addr) (a2 : Addr) : entryFrame m #[(.ref a1), (.ref a2)] 3 = mkF m 0 #[.val (.ref a1), .val (.ref a2), .unset] [] := by first | (simp [entryFrame, mkF, argsToLocals, Value.category]; done) | rfl
def f25 (g_a1f : Nat → Int32) (g_a2f : Nat → Int32) : Int32 := (if (g_a1f 0) = (g_a2f 0) then (1 : Int32) else (0 : Int32))
set_option maxRecDepth 65536 in
set_option maxHeartbeats 40000000 in
theorem rm25 (l : Launch) (Z : State) (a0 : Array Value) (hw : ∀ d ∈ tables_1, d.before a0 Z = true) (ws : List Jvm.Cond) (a1 : Addr) (a2 : Addr) (g_a1f : Nat → Int32) (g_a2f : Nat → Int32) (h0 : Heap) (n0 : Nat) (Z0 : n0 ≤ h0.size) (A_a1 : Ary Z h0 a1 .byte 1 (fun i => .int (g_a1f i))) (A_a2 : Ary Z h0 a2 .byte 1 (fun i => .int (g_a2f i))) :
    MetFree l (⟨"java/lang/StringLatin1", "equals", "([B[B)Z"⟩ : MethodName) (head1 (Jvm.Cond.code (⟨"java/lang/StringLatin1", "equals", "([B[B)Z"⟩ : MethodName) jdk_43_method_13_code 3 (some .boolean) :: ws) ({ frames := 0, cells := 0, slots := 0, locals := 0 } : Room)) (fun a U => a = #[(.ref a1), (.ref a2)] ∧ Z.Warmed39 U.vm ∧ U.heap = h0) (fun _ _ _ _ _ => True) (fun _ U o U' => ∃ v L, o = .returned v ∧ QP (.int (f25 g_a1f g_a2f)) h0 n0 v U'.heap L ∧ FrameEnd U o U' L ({ frames := 0, cells := 0, slots := 0, locals := 0 } : Room).cells ({ frames := 0, cells := 0, slots := 0, locals := 0 } : Room).slots) := by
  refine MetFree.of_bodySF (plainFor_of_name pn_0) hisR ?_
  intro p e s m args below meth c s₁ Bd hml0 hP hK
  obtain ⟨rfl, hZ, hh⟩ := hP
  have hx := Bd.exec
  have hby := Bd.bytes
  have hml : c.maxLocals = 3 := hml0
  have hown : s.vm.findClass "java/lang/StringLatin1" = some m.cls := findClass_of_methodNamed Bd.named
  have hnm := (name_of_methodNamed Bd.named Bd.method).1
  have X0 : Stand p l e ({ frames := 0, cells := 0, slots := 0, locals := 0 } : Room) s m #[(.ref a1), (.ref a2)] below meth c s₁ [] 0 0 := Stand.of_body Bd
  have e0 : s₁.heap = h0 := by rw [← hh, Bd.state]; rfl
  have N0 := Fr.nil n0
  refine Go.done (Go.step (fun t k => castTop (ef_25 m a1 a2) k) ?_)
  have KK0 : Keep h0 h0 [] := Keep.refl _ _
  show Go p e below _ (s₁.setTop (mkF m 0 #[.val (.ref a1), .val (.ref a2), .unset] []))
  refine Go.step (fun t k => XS.aloadN X0.here hx rfl (hb hby d25_0) rfl rfl k) ?_
  show Go p e below _ (s₁.setTop (mkF m 1 #[.val (.ref a1), .val (.ref a2), .unset] [(.ref a1)]))
  refine Go.step (lenA X0 hx hZ e0 A_a1 (g := (mkF m 1 #[.val (.ref a1), .val (.ref a2), .unset] [(.ref a1)])) rfl rfl (hb hby d25_1)) ?_
  show Go p e below _ (s₁.setTop (mkF m 2 #[.val (.ref a1), .val (.ref a2), .unset] [(.int (1 : Int32))]))
  refine Go.step (fun t k => XS.aloadN X0.here hx rfl (hb hby d25_2) rfl rfl k) ?_
  show Go p e below _ (s₁.setTop (mkF m 3 #[.val (.ref a1), .val (.ref a2), .unset] [(.ref a2), (.int (1 : Int32))]))
  refine Go.step (lenA X0 hx hZ e0 A_a2 (g := (mkF m 3 #[.val (.ref a1), .val (.ref a2), .unset] [(.ref a2), (.int (1 : Int32))])) rfl rfl (hb hby d25_3)) ?_
  show Go p e below _ (s₁.setTop (mkF m 4 #[.val (.ref a1), .val (.ref a2), .unset] [(.int (1 : Int32)), (.int (1 : Int32))]))
  refine Go.step (fun t k => XS.icmpNo X0.here hx rfl (hb hby d25_4) rfl (teq (rfl : (1 : Int32) = (1 : Int32))).2 k) ?_
  show Go p e below _ (s₁.setTop (mkF m 7 #[.val (.ref a1), .val (.ref a2), .unset] []))
  refine Go.step (fun t k => XS.iconst X0.here hx rfl (hb hby d25_7)  k) ?_
  show Go p e below _ (s₁.setTop (mkF m 8 #[.val (.ref a1), .val (.ref a2), .unset] [(.int (0 : Int32))]))
  refine Go.step (fun t k => XS.istoreN X0.here hx rfl (hb hby d25_8) rfl (l' := #[.val (.ref a1), .val (.ref a2), .val (.int (0 : Int32))]) rfl k) ?_
  show Go p e below _ (s₁.setTop (mkF m 9 #[.val (.ref a1), .val (.ref a2), .val (.int (0 : Int32))] []))
  refine Go.step (fun t k => XS.iloadN X0.here hx rfl (hb hby d25_9) rfl k) ?_
  show Go p e below _ (s₁.setTop (mkF m 10 #[.val (.ref a1), .val (.ref a2), .val (.int (0 : Int32))] [(.int (0 : Int32))]))
  refine Go.step (fun t k => XS.aloadN X0.here hx rfl (hb hby d25_10) rfl rfl k) ?_
  show Go p e below _ (s₁.setTop (mkF m 11 #[.val (.ref a1), .val (.ref a2), .val (.int (0 : Int32))] [(.ref a1), (.int (0 : Int32))]))
  refine Go.step (lenA X0 hx hZ e0 A_a1 (g := (mkF m 11 #[.val (.ref a1), .val (.ref a2), .val (.int (0 : Int32))] [(.ref a1), (.int (0 : Int32))])) rfl rfl (hb hby d25_11)) ?_
  show Go p e below _ (s₁.setTop (mkF m 12 #[.val (.ref a1), .val (.ref a2), .val (.int (0 : Int32))] [(.int (1 : Int32)), (.int (0 : Int32))]))
  refine Go.step (fun t k => XS.icmpNo X0.here hx rfl (hb hby d25_12) rfl (tlt (by decide : (0 : Int32) < (1 : Int32))).2.1 k) ?_
  show Go p e below _ (s₁.setTop (mkF m 15 #[.val (.ref a1), .val (.ref a2), .val (.int (0 : Int32))] []))
  refine Go.step (fun t k => XS.aloadN X0.here hx rfl (hb hby d25_15) rfl rfl k) ?_
  show Go p e below _ (s₁.setTop (mkF m 16 #[.val (.ref a1), .val (.ref a2), .val (.int (0 : Int32))] [(.ref a1)]))
  refine Go.step (fun t k => XS.iloadN X0.here hx rfl (hb hby d25_16) rfl k) ?_
  show Go p e below _ (s₁.setTop (mkF m 17 #[.val (.ref a1), .val (.ref a2), .val (.int (0 : Int32))] [(.int (0 : Int32)), (.ref a1)]))
  refine Go.step (ldB X0 hx hZ e0 A_a1 (j := (0 : Int32)) (by decide) (by decide) (g := (mkF m 17 #[.val (.ref a1), .val (.ref a2), .val (.int (0 : Int32))] [(.int (0 : Int32)), (.ref a1)])) rfl rfl (hb hby d25_17)) ?_
  show Go p e below _ (s₁.setTop (mkF m 18 #[.val (.ref a1), .val (.ref a2), .val (.int (0 : Int32))] [(.int (g_a1f 0))]))
  refine Go.step (fun t k => XS.aloadN X0.here hx rfl (hb hby d25_18) rfl rfl k) ?_
  show Go p e below _ (s₁.setTop (mkF m 19 #[.val (.ref a1), .val (.ref a2), .val (.int (0 : Int32))] [(.ref a2), (.int (g_a1f 0))]))
  refine Go.step (fun t k => XS.iloadN X0.here hx rfl (hb hby d25_19) rfl k) ?_
  show Go p e below _ (s₁.setTop (mkF m 20 #[.val (.ref a1), .val (.ref a2), .val (.int (0 : Int32))] [(.int (0 : Int32)), (.ref a2), (.int (g_a1f 0))]))
  refine Go.step (ldB X0 hx hZ e0 A_a2 (j := (0 : Int32)) (by decide) (by decide) (g := (mkF m 20 #[.val (.ref a1), .val (.ref a2), .val (.int (0 : Int32))] [(.int (0 : Int32)), (.ref a2), (.int (g_a1f 0))])) rfl rfl (hb hby d25_20)) ?_
  show Go p e below _ (s₁.setTop (mkF m 21 #[.val (.ref a1), .val (.ref a2), .val (.int (0 : Int32))] [(.int (g_a2f 0)), (.int (g_a1f 0))]))
  by_cases hc3 : (g_a1f 0) = (g_a2f 0)
  · refine Go.step (fun t k => XS.icmpYes X0.here hx rfl (pc0 := 21) (pc' := 26) rfl (hb hby d25_21) rfl (teq hc3).1 (by decide) (by decide) k) ?_
    show Go p e below _ (s₁.setTop (mkF m 26 #[.val (.ref a1), .val (.ref a2), .val (.int (0 : Int32))] []))
    refine Go.step (fun t k => XS.iinc X0.here hx rfl (hb hby d25_26) rfl (l' := #[.val (.ref a1), .val (.ref a2), .val (.int (1 : Int32))]) rfl k) ?_
    show Go p e below _ (s₁.setTop (mkF m 29 #[.val (.ref a1), .val (.ref a2), .val (.int (1 : Int32))] []))
    refine Go.step (fun t k => XS.goto X0.here hx rfl (pc0 := 29) (pc' := 9) rfl (hb hby d25_29) (by decide) (by decide) k) ?_
    show Go p e below _ (s₁.setTop (mkF m 9 #[.val (.ref a1), .val (.ref a2), .val (.int (1 : Int32))] []))
    refine Go.step (fun t k => XS.iloadN X0.here hx rfl (hb hby d25_9) rfl k) ?_
    show Go p e below _ (s₁.setTop (mkF m 10 #[.val (.ref a1), .val (.ref a2), .val (.int (1 : Int32))] [(.int (1 : Int32))]))
    refine Go.step (fun t k => XS.aloadN X0.here hx rfl (hb hby d25_10) rfl rfl k) ?_
    show Go p e below _ (s₁.setTop (mkF m 11 #[.val (.ref a1), .val (.ref a2), .val (.int (1 : Int32))] [(.ref a1), (.int (1 : Int32))]))
    refine Go.step (lenA X0 hx hZ e0 A_a1 (g := (mkF m 11 #[.val (.ref a1), .val (.ref a2), .val (.int (1 : Int32))] [(.ref a1), (.int (1 : Int32))])) rfl rfl (hb hby d25_11)) ?_
    show Go p e below _ (s₁.setTop (mkF m 12 #[.val (.ref a1), .val (.ref a2), .val (.int (1 : Int32))] [(.int (1 : Int32)), (.int (1 : Int32))]))
    refine Go.step (fun t k => XS.icmpYes X0.here hx rfl (pc0 := 12) (pc' := 32) rfl (hb hby d25_12) rfl (flt (by decide : ¬ ((1 : Int32) < (1 : Int32)))).2.1 (by decide) (by decide) k) ?_
    show Go p e below _ (s₁.setTop (mkF m 32 #[.val (.ref a1), .val (.ref a2), .val (.int (1 : Int32))] []))
    refine Go.step (fun t k => XS.iconst X0.here hx rfl (hb hby d25_32)  k) ?_
    show Go p e below _ (s₁.setTop (mkF m 33 #[.val (.ref a1), .val (.ref a2), .val (.int (1 : Int32))] [(.int (1 : Int32))]))
    exact retGN X0 hx Bd.notSynchronized Bd.returns (t := .boolean) (by simp) (z' := (1 : Int32)) rfl (hb hby d25_33) ⟨by first | (simp only [f25, if_pos hc3]; done) | rfl | (simp [f25, if_pos hc3]; done), N0, e0⟩ (by decide) (by decide)
  · refine Go.step (fun t k => XS.icmpNo X0.here hx rfl (hb hby d25_21) rfl (feq hc3).1 k) ?_
    show Go p e below _ (s₁.setTop (mkF m 24 #[.val (.ref a1), .val (.ref a2), .val (.int (0 : Int32))] []))
    refine Go.step (fun t k => XS.iconst X0.here hx rfl (hb hby d25_24)  k) ?_
    show Go p e below _ (s₁.setTop (mkF m 25 #[.val (.ref a1), .val (.ref a2), .val (.int (0 : Int32))] [(.int (0 : Int32))]))
    exact retGN X0 hx Bd.notSynchronized Bd.returns (t := .boolean) (by simp) (z' := (0 : Int32)) rfl (hb hby d25_25) ⟨by first | (simp only [f25, if_neg hc3]; done) | rfl | (simp [f25, if_neg hc3]; done), N0, e0⟩ (by decide) (by decide)
theorem d24_0 : decode jdk_42_method_66_code 0 = .ok (.aload_n 0, 1) := by decide +kernel
theorem d24_1 : decode jdk_42_method_66_code 1 = .ok (.aload_n 1, 1) := by decide +kernel
theorem d24_2 : decode jdk_42_method_66_code 2 = .ok (.if_acmp .ne 5, 3) := by decide +kernel
theorem d24_7 : decode jdk_42_method_66_code 7 = .ok (.aload_n 1, 1) := by decide +kernel
theorem d24_8 : decode jdk_42_method_66_code 8 = .ok (.instanceof 10, 3) := by decide +kernel
theorem d24_11 : decode jdk_42_method_66_code 11 = .ok (.ifCond .eq 43, 3) := by decide +kernel
theorem d24_14 : decode jdk_42_method_66_code 14 = .ok (.aload_n 1, 1) := by decide +kernel
theorem d24_15 : decode jdk_42_method_66_code 15 = .ok (.checkcast 10, 3) := by decide +kernel
theorem d24_18 : decode jdk_42_method_66_code 18 = .ok (.astore_n 2, 1) := by decide +kernel
theorem d24_19 : decode jdk_42_method_66_code 19 = .ok (.getstatic 38, 3) := by decide +kernel
theorem d24_22 : decode jdk_42_method_66_code 22 = .ok (.ifCond .eq 14, 3) := by decide +kernel
theorem d24_25 : decode jdk_42_method_66_code 25 = .ok (.aload_n 0, 1) := by decide +kernel
theorem d24_26 : decode jdk_42_method_66_code 26 = .ok (.getfield 15, 3) := by decide +kernel
theorem d24_29 : decode jdk_42_method_66_code 29 = .ok (.aload_n 2, 1) := by decide +kernel
theorem d24_30 : decode jdk_42_method_66_code 30 = .ok (.getfield 15, 3) := by decide +kernel
theorem d24_33 : decode jdk_42_method_66_code 33 = .ok (.if_icmp .ne 21, 3) := by decide +kernel
theorem d24_36 : decode jdk_42_method_66_code 36 = .ok (.aload_n 0, 1) := by decide +kernel
theorem d24_37 : decode jdk_42_method_66_code 37 = .ok (.getfield 9, 3) := by decide +kernel
theorem d24_40 : decode jdk_42_method_66_code 40 = .ok (.aload_n 2, 1) := by decide +kernel
theorem d24_41 : decode jdk_42_method_66_code 41 = .ok (.getfield 9, 3) := by decide +kernel
theorem d24_44 : decode jdk_42_method_66_code 44 = .ok (.invokestatic 541, 3) := by decide +kernel
theorem pd_12 : parseMethodDescriptor "([B[B)Z" = some ⟨[(.array .byte), (.array .byte)], some .boolean⟩ := by decide +kernel
theorem d24_47 : decode jdk_42_method_66_code 47 = .ok (.ifCond .eq 7, 3) := by decide +kernel
theorem d24_54 : decode jdk_42_method_66_code 54 = .ok (.iconst 0, 1) := by decide +kernel
theorem d24_55 : decode jdk_42_method_66_code 55 = .ok (.ireturn, 1) := by decide +kernel
theorem d24_50 : decode jdk_42_method_66_code 50 = .ok (.iconst 1, 1) := by decide +kernel
theorem d24_51 : decode jdk_42_method_66_code 51 = .ok (.goto 4, 3) := by decide +kernel
theorem ef_24 (m : MethodId) (a1 : Addr) (a2 : Addr) : entryFrame m #[(.ref a1), (.ref a2)] 3 = mkF m 0 #[.val (.ref a1), .val (.ref a2), .unset] [] := by first | (simp [entryFrame, mkF, argsToLocals, Value.category]; done) | rfl
def f24 (g_a1 : Nat → Int32) (g_a2 : Nat → Int32) (wC : Int32) : Int32 := (if (f25 g_a1 g_a2) = (0 : Int32) then (0 : Int32) else (1 : Int32))
set_option maxRecDepth 65536 in
set_option maxHeartbeats 40000000 in
theorem rm24 (l : Launch) (Z : State) (a0 : Array Value) (hw : ∀ d ∈ tables_1, d.before a0 Z = true) (ws : List Jvm.Cond) (a1 : Addr) (a2 : Addr) (o_value_a1 : Addr) (g_a1 : Nat → Int32) (o_value_a2 : Addr) (g_a2 : Nat → Int32) (wC : Int32) (h0 : Heap) (n0 : Nat) (Z0 : n0 ≤ h0.size) (E_a1 : Exa Z h0 a1 "java/lang/String") (F_coder_a1 : Fld Z h0 a1 "java/lang/String" "coder" "B" (.int (0 : Int32))) (F_value_a1 : Fld Z h0 a1 "java/lang/String" "value" "[B" (.ref o_value_a1)) (A_o_value_a1 : Ary Z h0 o_value_a1 .byte 1 (fun i => .int (g_a1 i))) (E_a2 : Exa Z h0 a2 "java/lang/String") (F_coder_a2 : Fld Z h0 a2 "java/lang/String" "coder" "B" (.int (0 : Int32))) (F_value_a2 : Fld Z h0 a2 "java/lang/String" "value" "[B" (.ref o_value_a2)) (A_o_value_a2 : Ary Z h0 o_value_a2 .byte 1 (fun i => .int (g_a2 i))) (hne_a1_a2 : a1 ≠ a2) (hC : ¬ (wC = (0 : Int32))) (S_COMPACT_STRINGS : Sta Z Z.heap "java/lang/String" "COMPACT_STRINGS" "Z" (.int wC)) (hO : Old Z n0 h0) :
    MetFree l (⟨"java/lang/String", "equals", "(Ljava/lang/Object;)Z"⟩ : MethodName) (head1 (Jvm.Cond.code (⟨"java/lang/String", "equals", "(Ljava/lang/Object;)Z"⟩ : MethodName) jdk_42_method_66_code 3 (some .boolean) :: ws) ({ frames := 1, cells := 0, slots := 0, locals := 14 } : Room)) (fun a U => a = #[(.ref a1), (.ref a2)] ∧ Z.Warmed39 U.vm ∧ U.heap = h0) (fun _ _ _ _ _ => True) (fun _ U o U' => ∃ v L, o = .returned v ∧ QP (.int (f24 g_a1 g_a2 wC)) h0 n0 v U'.heap L ∧ FrameEnd U o U' L ({ frames := 1, cells := 0, slots := 0, locals := 14 } : Room).cells ({ frames := 1, cells := 0, slots := 0, locals := 14 } : Room).slots) := by
  refine MetFree.of_bodySF (plainFor_of_name pn_1) hisR ?_
  intro p e s m args below meth c s₁ Bd hml0 hP hK
  obtain ⟨rfl, hZ, hh⟩ := hP
  have hx := Bd.exec
  have hby := Bd.bytes
  have hml : c.maxLocals = 3 := hml0
  have hown : s.vm.findClass "java/lang/String" = some m.cls := findClass_of_methodNamed Bd.named
  have hnm := (name_of_methodNamed Bd.named Bd.method).1
  have X0 : Stand p l e ({ frames := 1, cells := 0, slots := 0, locals := 14 } : Room) s m #[(.ref a1), (.ref a2)] below meth c s₁ [] 0 0 := Stand.of_body Bd
  have e0 : s₁.heap = h0 := by rw [← hh, Bd.state]; rfl
  have N0 := Fr.nil n0
  refine Go.done (Go.step (fun t k => castTop (ef_24 m a1 a2) k) ?_)
  have KK0 : Keep h0 h0 [] := Keep.refl _ _
  show Go p e below _ (s₁.setTop (mkF m 0 #[.val (.ref a1), .val (.ref a2), .unset] []))
  refine Go.step (fun t k => XS.aloadN X0.here hx rfl (hb hby d24_0) rfl rfl k) ?_
  show Go p e below _ (s₁.setTop (mkF m 1 #[.val (.ref a1), .val (.ref a2), .unset] [(.ref a1)]))
  refine Go.step (fun t k => XS.aloadN X0.here hx rfl (hb hby d24_1) rfl rfl k) ?_
  show Go p e below _ (s₁.setTop (mkF m 2 #[.val (.ref a1), .val (.ref a2), .unset] [(.ref a2), (.ref a1)]))
  refine Go.step (fun t k => Jvm.RoadKit.acmp (g := (mkF m 2 #[.val (.ref a1), .val (.ref a2), .unset] [(.ref a2), (.ref a1)])) X0 hx rfl rfl rfl (pc0 := 2) (pc' := 7) (same := false) rfl (hb hby d24_2) rfl (decide_eq_false fun q => hne_a1_a2 (Value.ref.inj q)) (by decide) (by decide) k) ?_
  show Go p e below _ (s₁.setTop (mkF m 7 #[.val (.ref a1), .val (.ref a2), .unset] []))
  refine Go.step (fun t k => XS.aloadN X0.here hx rfl (hb hby d24_7) rfl rfl k) ?_
  show Go p e below _ (s₁.setTop (mkF m 8 #[.val (.ref a1), .val (.ref a2), .unset] [(.ref a2)]))
  obtain ⟨T3, X3, e3, st3⟩ := instY X0 hx hZ hown (hw _ (List.mem_of_getElem? (i := 12) rfl)) e0 (Ins.self E_a2) (g := (mkF m 8 #[.val (.ref a1), .val (.ref a2), .unset] [(.ref a2)])) rfl rfl (hb hby d24_8)
  refine Go.step st3 ?_
  show Go p e below _ (T3.setTop (mkF m 11 #[.val (.ref a1), .val (.ref a2), .unset] [(.int (1 : Int32))]))
  refine Go.step (fun t k => XS.ifNo X3.here hx rfl (hb hby d24_11) rfl ((if0 _ _).trans (feq (by decide : ¬ ((1 : Int32) = (0 : Int32)))).1) k) ?_
  show Go p e below _ (T3.setTop (mkF m 14 #[.val (.ref a1), .val (.ref a2), .unset] []))
  refine Go.step (fun t k => XS.aloadN X3.here hx rfl (hb hby d24_14) rfl rfl k) ?_
  show Go p e below _ (T3.setTop (mkF m 15 #[.val (.ref a1), .val (.ref a2), .unset] [(.ref a2)]))
  obtain ⟨T4, X4, e4, st4⟩ := castY X3 hx hZ hown (hw _ (List.mem_of_getElem? (i := 12) rfl)) e3 (Ins.self E_a2) (g := (mkF m 15 #[.val (.ref a1), .val (.ref a2), .unset] [(.ref a2)])) rfl rfl (hb hby d24_15)
  refine Go.step st4 ?_
  show Go p e below _ (T4.setTop (mkF m 18 #[.val (.ref a1), .val (.ref a2), .unset] [(.ref a2)]))
  refine Go.step (fun t k => XS.astoreN X4.here hx rfl (hb hby d24_18) rfl rfl (l' := #[.val (.ref a1), .val (.ref a2), .val (.ref a2)]) rfl k) ?_
  show Go p e below _ (T4.setTop (mkF m 19 #[.val (.ref a1), .val (.ref a2), .val (.ref a2)] []))
  obtain ⟨T5, X5, e5, st5⟩ := getS2 X4 hx hZ hown (host := "") (Or.inl (hw _ (List.mem_of_getElem? (i := 7) rfl))) Via.refl e4 (S_COMPACT_STRINGS.ext hO.2) (g := (mkF m 19 #[.val (.ref a1), .val (.ref a2), .val (.ref a2)] [])) rfl (hb hby d24_19)
  refine Go.step st5 ?_
  show Go p e below _ (T5.setTop (mkF m 22 #[.val (.ref a1), .val (.ref a2), .val (.ref a2)] [(.int wC)]))
  refine Go.step (fun t k => XS.ifNo X5.here hx rfl (hb hby d24_22) rfl ((if0 _ _).trans (feq (hC : ¬ (wC = (0 : Int32)))).1) k) ?_
  show Go p e below _ (T5.setTop (mkF m 25 #[.val (.ref a1), .val (.ref a2), .val (.ref a2)] []))
  refine Go.step (fun t k => XS.aloadN X5.here hx rfl (hb hby d24_25) rfl rfl k) ?_
  show Go p e below _ (T5.setTop (mkF m 26 #[.val (.ref a1), .val (.ref a2), .val (.ref a2)] [(.ref a1)]))
  obtain ⟨T6, X6, e6, st6⟩ := getF X5 hx hZ hown (host := "") (Or.inl (hw _ (List.mem_of_getElem? (i := 27) rfl))) Via.refl e5 F_coder_a1 (g := (mkF m 26 #[.val (.ref a1), .val (.ref a2), .val (.ref a2)] [(.ref a1)])) rfl rfl (hb hby d24_26)
  refine Go.step st6 ?_
  show Go p e below _ (T6.setTop (mkF m 29 #[.val (.ref a1), .val (.ref a2), .val (.ref a2)] [(.int (0 : Int32))]))
  refine Go.step (fun t k => XS.aloadN X6.here hx rfl (hb hby d24_29) rfl rfl k) ?_
  show Go p e below _ (T6.setTop (mkF m 30 #[.val (.ref a1), .val (.ref a2), .val (.ref a2)] [(.ref a2), (.int (0 : Int32))]))
  obtain ⟨T7, X7, e7, st7⟩ := getF X6 hx hZ hown (host := "") (Or.inl (hw _ (List.mem_of_getElem? (i := 27) rfl))) Via.refl e6 F_coder_a2 (g := (mkF m 30 #[.val (.ref a1), .val (.ref a2), .val (.ref a2)] [(.ref a2), (.int (0 : Int32))])) rfl rfl (hb hby d24_30)
  refine Go.step st7 ?_
  show Go p e below _ (T7.setTop (mkF m 33 #[.val (.ref a1), .val (.ref a2), .val (.ref a2)] [(.int (0 : Int32)), (.int (0 : Int32))]))
  refine Go.step (fun t k => XS.icmpNo X7.here hx rfl (hb hby d24_33) rfl (teq (rfl : (0 : Int32) = (0 : Int32))).2 k) ?_
  show Go p e below _ (T7.setTop (mkF m 36 #[.val (.ref a1), .val (.ref a2), .val (.ref a2)] []))
  refine Go.step (fun t k => XS.aloadN X7.here hx rfl (hb hby d24_36) rfl rfl k) ?_
  show Go p e below _ (T7.setTop (mkF m 37 #[.val (.ref a1), .val (.ref a2), .val (.ref a2)] [(.ref a1)]))
  obtain ⟨T8, X8, e8, st8⟩ := getF X7 hx hZ hown (host := "") (Or.inl (hw _ (List.mem_of_getElem? (i := 25) rfl))) Via.refl e7 F_value_a1 (g := (mkF m 37 #[.val (.ref a1), .val (.ref a2), .val (.ref a2)] [(.ref a1)])) rfl rfl (hb hby d24_37)
  refine Go.step st8 ?_
  show Go p e below _ (T8.setTop (mkF m 40 #[.val (.ref a1), .val (.ref a2), .val (.ref a2)] [(.ref o_value_a1)]))
  refine Go.step (fun t k => XS.aloadN X8.here hx rfl (hb hby d24_40) rfl rfl k) ?_
  show Go p e below _ (T8.setTop (mkF m 41 #[.val (.ref a1), .val (.ref a2), .val (.ref a2)] [(.ref a2), (.ref o_value_a1)]))
  obtain ⟨T9, X9, e9, st9⟩ := getF X8 hx hZ hown (host := "") (Or.inl (hw _ (List.mem_of_getElem? (i := 25) rfl))) Via.refl e8 F_value_a2 (g := (mkF m 41 #[.val (.ref a1), .val (.ref a2), .val (.ref a2)] [(.ref a2), (.ref o_value_a1)])) rfl rfl (hb hby d24_41)
  refine Go.step st9 ?_
  show Go p e below _ (T9.setTop (mkF m 44 #[.val (.ref a1), .val (.ref a2), .val (.ref a2)] [(.ref o_value_a2), (.ref o_value_a1)]))
  obtain ⟨_, _, ⟨T10, L10, k10, n10⟩, -, X10, ⟨Lc10, hQ10, l10, y10, z10⟩, st10⟩ := Jvm.LawKit.callS X9 hx (y := (⟨"java/lang/StringLatin1", "equals", "([B[B)Z"⟩ : MethodName)) hown (mvT hZ (hw _ (List.mem_of_getElem? (i := 161) rfl))) (mvT hZ (hw _ (List.mem_of_getElem? (i := 162) rfl))) (mvT hZ (hw _ (List.mem_of_getElem? (i := 10) rfl))) (mvT hZ (hw _ (List.mem_of_getElem? (i := 163) rfl))) (by decide) (backOf (W := 0) (rm25 l Z a0 hw [] o_value_a1 o_value_a2 g_a1 g_a2 h0 n0 Z0 A_o_value_a1 A_o_value_a2) hZ (hw _ (List.mem_of_getElem? (i := 163) rfl)) (hw _ (List.mem_of_getElem? (i := 10) rfl)) (by decide) (by decide)) (g := (mkF m 44 #[.val (.ref a1), .val (.ref a2), .val (.ref a2)] [(.ref o_value_a2), (.ref o_value_a1)])) rfl (by rw [hml]; rfl) (argsL := [(.ref o_value_a1), (.ref o_value_a2)]) (rest := []) (lenOf pd_12 rfl) rfl (by show 2 * 0 + _ ≤ _; exact Nat.le_of_eq rfl) (hb hby d24_44) (fun _ _ => ⟨rfl, e9, (by decide : 0 + 0 ≤ _), (by decide : 0 + 0 ≤ _)⟩)
  dsimp only [Pt.U, Pt.locs, Pt.cells, Pt.slots] at X10 l10 y10 z10 st10 hQ10
  subst l10 y10 z10
  obtain ⟨rfl, N10q, e10⟩ := hQ10
  have N10 := Fr.app N0 N10q
  refine Go.step st10 ?_
  show Go p e below _ (T10.setTop (mkF m 47 #[.val (.ref a1), .val (.ref a2), .val (.ref a2)] [(.int (f25 g_a1 g_a2))]))
  by_cases hc11 : (f25 g_a1 g_a2) = (0 : Int32)
  · refine Go.step (fun t k => XS.ifYes X10.here hx rfl (pc0 := 47) (pc' := 54) rfl (hb hby d24_47) rfl ((if0 _ _).trans (teq hc11).1) (by decide) (by decide) k) ?_
    show Go p e below _ (T10.setTop (mkF m 54 #[.val (.ref a1), .val (.ref a2), .val (.ref a2)] []))
    refine Go.step (fun t k => XS.iconst X10.here hx rfl (hb hby d24_54)  k) ?_
    show Go p e below _ (T10.setTop (mkF m 55 #[.val (.ref a1), .val (.ref a2), .val (.ref a2)] [(.int (0 : Int32))]))
    exact retGN X10 hx Bd.notSynchronized Bd.returns (t := .boolean) (by simp) (z' := (0 : Int32)) rfl (hb hby d24_55) ⟨by first | (simp only [f24, if_pos hc11]; done) | rfl | (simp [f24, if_pos hc11]; done), N10, e10⟩ (by decide) (by decide)
  · refine Go.step (fun t k => XS.ifNo X10.here hx rfl (hb hby d24_47) rfl ((if0 _ _).trans (feq hc11).1) k) ?_
    show Go p e below _ (T10.setTop (mkF m 50 #[.val (.ref a1), .val (.ref a2), .val (.ref a2)] []))
    refine Go.step (fun t k => XS.iconst X10.here hx rfl (hb hby d24_50)  k) ?_
    show Go p e below _ (T10.setTop (mkF m 51 #[.val (.ref a1), .val (.ref a2), .val (.ref a2)] [(.int (1 : Int32))]))
    refine Go.step (fun t k => XS.goto X10.here hx rfl (pc0 := 51) (pc' := 55) rfl (hb hby d24_51) (by decide) (by decide) k) ?_
    show Go p e below _ (T10.setTop (mkF m 55 #[.val (.ref a1), .val (.ref a2), .val (.ref a2)] [(.int (1 : Int32))]))
    exact retGN X10 hx Bd.notSynchronized Bd.returns (t := .boolean) (by simp) (z' := (1 : Int32)) rfl (hb hby d24_55) ⟨by first | (simp only [f24, if_neg hc11]; done) | rfl | (simp [f24, if_neg hc11]; done), N10, e10⟩ (by decide) (by decide)
theorem d23_0 : decode prog_109_method_7_code 0 = .ok (.iconst 1, 1) := by decide +kernel
theorem d23_1 : decode prog_109_method_7_code 1 = .ok (.istore_n 1, 1) := by decide +kernel
theorem d23_2 : decode prog_109_method_7_code 2 = .ok (.aload_n 0, 1) := by decide +kernel
theorem d23_3 : decode prog_109_method_7_code 3 = .ok (.getfield 51, 3) := by decide +kernel
theorem d23_6 : decode prog_109_method_7_code 6 = .ok (.astore_n 2, 1) := by decide +kernel
theorem d23_7 : decode prog_109_method_7_code 7 = .ok (.aload_n 2, 1) := by decide +kernel
theorem d23_8 : decode prog_109_method_7_code 8 = .ok (.ifnull 28, 3) := by decide +kernel
theorem d23_36 : decode prog_109_method_7_code 36 = .ok (.iload_n 1, 1) := by decide +kernel
theorem d23_37 : decode prog_109_method_7_code 37 = .ok (.ireturn, 1) := by decide +kernel
theorem ef_23_0 (m : MethodId) (a1 : Addr) : entryFrame m #[(.ref a1)] 3 = mkF m 0 #[.val (.ref a1), .unset, .unset] [] := by first | (simp [entryFrame, mkF, argsToLocals, Value.category]; done) | rfl
def f23_0  : Int32 := (1 : Int32)
set_option maxRecDepth 65536 in
set_option maxHeartbeats 40000000 in
theorem rm23_0 (l : Launch) (Z : State) (a0 : Array Value) (hw : ∀ d ∈ tables_1, d.before a0 Z = true) (ws : List Jvm.Cond) (a1 : Addr) (h0 : Heap) (n0 : Nat) (Z0 : n0 ≤ h0.size) (F_previous_a1 : Fld Z h0 a1 "com/example/dataflow_to_dispatch/dataflowtodispatch/model/document/XmlElement" "previous" "Lcom/example/dataflow_to_dispatch/dataflowtodispatch/model/document/XmlElement;" .null) :
    MetFree l (⟨"com/example/dataflow_to_dispatch/dataflowtodispatch/model/document/XmlElement", "position", "()I"⟩ : MethodName) (head1 (Jvm.Cond.code (⟨"com/example/dataflow_to_dispatch/dataflowtodispatch/model/document/XmlElement", "position", "()I"⟩ : MethodName) prog_109_method_7_code 3 (some .int) :: ws) ({ frames := 0, cells := 0, slots := 0, locals := 0 } : Room)) (fun a U => a = #[(.ref a1)] ∧ Z.Warmed39 U.vm ∧ U.heap = h0) (fun _ _ _ _ _ => True) (fun _ U o U' => ∃ v L, o = .returned v ∧ QP (.int (f23_0)) h0 n0 v U'.heap L ∧ FrameEnd U o U' L ({ frames := 0, cells := 0, slots := 0, locals := 0 } : Room).cells ({ frames := 0, cells := 0, slots := 0, locals := 0 } : Room).slots) := by
  refine MetFree.of_bodySF (plainFor_of_name pn_5) hisR ?_
  intro p e s m args below meth c s₁ Bd hml0 hP hK
  obtain ⟨rfl, hZ, hh⟩ := hP
  have hx := Bd.exec
  have hby := Bd.bytes
  have hml : c.maxLocals = 3 := hml0
  have hown : s.vm.findClass "com/example/dataflow_to_dispatch/dataflowtodispatch/model/document/XmlElement" = some m.cls := findClass_of_methodNamed Bd.named
  have hnm := (name_of_methodNamed Bd.named Bd.method).1
  have X0 : Stand p l e ({ frames := 0, cells := 0, slots := 0, locals := 0 } : Room) s m #[(.ref a1)] below meth c s₁ [] 0 0 := Stand.of_body Bd
  have e0 : s₁.heap = h0 := by rw [← hh, Bd.state]; rfl
  have N0 := Fr.nil n0
  refine Go.done (Go.step (fun t k => castTop (ef_23_0 m a1) k) ?_)
  have KK0 : Keep h0 h0 [] := Keep.refl _ _
  show Go p e below _ (s₁.setTop (mkF m 0 #[.val (.ref a1), .unset, .unset] []))
  refine Go.step (fun t k => XS.iconst X0.here hx rfl (hb hby d23_0)  k) ?_
  show Go p e below _ (s₁.setTop (mkF m 1 #[.val (.ref a1), .unset, .unset] [(.int (1 : Int32))]))
  refine Go.step (fun t k => XS.istoreN X0.here hx rfl (hb hby d23_1) rfl (l' := #[.val (.ref a1), .val (.int (1 : Int32)), .unset]) rfl k) ?_
  show Go p e below _ (s₁.setTop (mkF m 2 #[.val (.ref a1), .val (.int (1 : Int32)), .unset] []))
  refine Go.step (fun t k => XS.aloadN X0.here hx rfl (hb hby d23_2) rfl rfl k) ?_
  show Go p e below _ (s₁.setTop (mkF m 3 #[.val (.ref a1), .val (.int (1 : Int32)), .unset] [(.ref a1)]))
  obtain ⟨T2, X2, e2, st2⟩ := getF X0 hx hZ hown (host := "") (Or.inl (hw _ (List.mem_of_getElem? (i := 94) rfl))) Via.refl e0 F_previous_a1 (g := (mkF m 3 #[.val (.ref a1), .val (.int (1 : Int32)), .unset] [(.ref a1)])) rfl rfl (hb hby d23_3)
  refine Go.step st2 ?_
  show Go p e below _ (T2.setTop (mkF m 6 #[.val (.ref a1), .val (.int (1 : Int32)), .unset] [.null]))
  refine Go.step (fun t k => XS.astoreN X2.here hx rfl (hb hby d23_6) rfl rfl (l' := #[.val (.ref a1), .val (.int (1 : Int32)), .val .null]) rfl k) ?_
  show Go p e below _ (T2.setTop (mkF m 7 #[.val (.ref a1), .val (.int (1 : Int32)), .val .null] []))
  refine Go.step (fun t k => XS.aloadN X2.here hx rfl (hb hby d23_7) rfl rfl k) ?_
  show Go p e below _ (T2.setTop (mkF m 8 #[.val (.ref a1), .val (.int (1 : Int32)), .val .null] [.null]))
  refine Go.step (fun t k => XS.ifnullYes X2.here hx rfl (pc0 := 8) (pc' := 36) rfl (hb hby d23_8) rfl (by decide) (by decide) k) ?_
  show Go p e below _ (T2.setTop (mkF m 36 #[.val (.ref a1), .val (.int (1 : Int32)), .val .null] []))
  refine Go.step (fun t k => XS.iloadN X2.here hx rfl (hb hby d23_36) rfl k) ?_
  show Go p e below _ (T2.setTop (mkF m 37 #[.val (.ref a1), .val (.int (1 : Int32)), .val .null] [(.int (1 : Int32))]))
  exact retGI X2 hx Bd.notSynchronized Bd.returns (hb hby d23_37) ⟨by first | rfl | (simp only [f23_0]; done) | (simp [f23_0]; done), N0, e2⟩ (by decide) (by decide)
theorem d23_11 : decode prog_109_method_7_code 11 = .ok (.aload_n 2, 1) := by decide +kernel
theorem d23_12 : decode prog_109_method_7_code 12 = .ok (.getfield 19, 3) := by decide +kernel
theorem d23_15 : decode prog_109_method_7_code 15 = .ok (.aload_n 0, 1) := by decide +kernel
theorem d23_16 : decode prog_109_method_7_code 16 = .ok (.getfield 19, 3) := by decide +kernel
theorem d23_19 : decode prog_109_method_7_code 19 = .ok (.invokevirtual 54, 3) := by decide +kernel
theorem d23_22 : decode prog_109_method_7_code 22 = .ok (.ifCond .eq 6, 3) := by decide +kernel
theorem d23_25 : decode prog_109_method_7_code 25 = .ok (.iinc 1 1, 3) := by decide +kernel
theorem d23_28 : decode prog_109_method_7_code 28 = .ok (.aload_n 2, 1) := by decide +kernel
theorem d23_29 : decode prog_109_method_7_code 29 = .ok (.getfield 51, 3) := by decide +kernel
theorem d23_32 : decode prog_109_method_7_code 32 = .ok (.astore_n 2, 1) := by decide +kernel
theorem d23_33 : decode prog_109_method_7_code 33 = .ok (.goto (-26), 3) := by decide +kernel
theorem ef_23_1 (m : MethodId) (a1 : Addr) : entryFrame m #[(.ref a1)] 3 = mkF m 0 #[.val (.ref a1), .unset, .unset] [] := by first | (simp [entryFrame, mkF, argsToLocals, Value.category]; done) | rfl
def f23_1 (g_o_name_a1 : Nat → Int32) (g_o_name_x1 : Nat → Int32) (wC : Int32) : Int32 := (if (f24 g_o_name_x1 g_o_name_a1 wC) = (0 : Int32) then (1 : Int32) else (2 : Int32))
set_option maxRecDepth 65536 in
set_option maxHeartbeats 40000000 in
theorem rm23_1 (l : Launch) (Z : State) (a0 : Array Value) (hw : ∀ d ∈ tables_1, d.before a0 Z = true) (ws : List Jvm.Cond) (a1 : Addr) (x1 : Addr) (o_name_a1 : Addr) (o_value_o_name_a1 : Addr) (g_o_name_a1 : Nat → Int32) (o_name_x1 : Addr) (o_value_o_name_x1 : Addr) (g_o_name_x1 : Nat → Int32) (wC : Int32) (h0 : Heap) (n0 : Nat) (Z0 : n0 ≤ h0.size) (F_previous_a1 : Fld Z h0 a1 "com/example/dataflow_to_dispatch/dataflowtodispatch/model/document/XmlElement" "previous" "Lcom/example/dataflow_to_dispatch/dataflowtodispatch/model/document/XmlElement;" (.ref x1)) (F_name_a1 : Fld Z h0 a1 "com/example/dataflow_to_dispatch/dataflowtodispatch/model/document/XmlElement" "name" "Ljava/lang/String;" (.ref o_name_a1)) (E_o_name_a1 : Exa Z h0 o_name_a1 "java/lang/String") (F_coder_o_name_a1 : Fld Z h0 o_name_a1 "java/lang/String" "coder" "B" (.int (0 : Int32))) (F_value_o_name_a1 : Fld Z h0 o_name_a1 "java/lang/String" "value" "[B" (.ref o_value_o_name_a1)) (A_o_value_o_name_a1 : Ary Z h0 o_value_o_name_a1 .byte 1 (fun i => .int (g_o_name_a1 i))) (F_name_x1 : Fld Z h0 x1 "com/example/dataflow_to_dispatch/dataflowtodispatch/model/document/XmlElement" "name" "Ljava/lang/String;" (.ref o_name_x1)) (E_o_name_x1 : Exa Z h0 o_name_x1 "java/lang/String") (F_coder_o_name_x1 : Fld Z h0 o_name_x1 "java/lang/String" "coder" "B" (.int (0 : Int32))) (F_value_o_name_x1 : Fld Z h0 o_name_x1 "java/lang/String" "value" "[B" (.ref o_value_o_name_x1)) (A_o_value_o_name_x1 : Ary Z h0 o_value_o_name_x1 .byte 1 (fun i => .int (g_o_name_x1 i))) (F_previous_x1 : Fld Z h0 x1 "com/example/dataflow_to_dispatch/dataflowtodispatch/model/document/XmlElement" "previous" "Lcom/example/dataflow_to_dispatch/dataflowtodispatch/model/document/XmlElement;" .null) (hC : ¬ (wC = (0 : Int32))) (S_COMPACT_STRINGS : Sta Z Z.heap "java/lang/String" "COMPACT_STRINGS" "Z" (.int wC)) (hO : Old Z n0 h0) (hne_o_name_x1_o_name_a1 : o_name_x1 ≠ o_name_a1) :
    MetFree l (⟨"com/example/dataflow_to_dispatch/dataflowtodispatch/model/document/XmlElement", "position", "()I"⟩ : MethodName) (head1 (Jvm.Cond.code (⟨"com/example/dataflow_to_dispatch/dataflowtodispatch/model/document/XmlElement", "position", "()I"⟩ : MethodName) prog_109_method_7_code 3 (some .int) :: ws) ({ frames := 2, cells := 0, slots := 0, locals := 28 } : Room)) (fun a U => a = #[(.ref a1)] ∧ Z.Warmed39 U.vm ∧ U.heap = h0) (fun _ _ _ _ _ => True) (fun _ U o U' => ∃ v L, o = .returned v ∧ QP (.int (f23_1 g_o_name_a1 g_o_name_x1 wC)) h0 n0 v U'.heap L ∧ FrameEnd U o U' L ({ frames := 2, cells := 0, slots := 0, locals := 28 } : Room).cells ({ frames := 2, cells := 0, slots := 0, locals := 28 } : Room).slots) := by
  refine MetFree.of_bodySF (plainFor_of_name pn_5) hisR ?_
  intro p e s m args below meth c s₁ Bd hml0 hP hK
  obtain ⟨rfl, hZ, hh⟩ := hP
  have hx := Bd.exec
  have hby := Bd.bytes
  have hml : c.maxLocals = 3 := hml0
  have hown : s.vm.findClass "com/example/dataflow_to_dispatch/dataflowtodispatch/model/document/XmlElement" = some m.cls := findClass_of_methodNamed Bd.named
  have hnm := (name_of_methodNamed Bd.named Bd.method).1
  have X0 : Stand p l e ({ frames := 2, cells := 0, slots := 0, locals := 28 } : Room) s m #[(.ref a1)] below meth c s₁ [] 0 0 := Stand.of_body Bd
  have e0 : s₁.heap = h0 := by rw [← hh, Bd.state]; rfl
  have N0 := Fr.nil n0
  refine Go.done (Go.step (fun t k => castTop (ef_23_1 m a1) k) ?_)
  have KK0 : Keep h0 h0 [] := Keep.refl _ _
  show Go p e below _ (s₁.setTop (mkF m 0 #[.val (.ref a1), .unset, .unset] []))
  refine Go.step (fun t k => XS.iconst X0.here hx rfl (hb hby d23_0)  k) ?_
  show Go p e below _ (s₁.setTop (mkF m 1 #[.val (.ref a1), .unset, .unset] [(.int (1 : Int32))]))
  refine Go.step (fun t k => XS.istoreN X0.here hx rfl (hb hby d23_1) rfl (l' := #[.val (.ref a1), .val (.int (1 : Int32)), .unset]) rfl k) ?_
  show Go p e below _ (s₁.setTop (mkF m 2 #[.val (.ref a1), .val (.int (1 : Int32)), .unset] []))
  refine Go.step (fun t k => XS.aloadN X0.here hx rfl (hb hby d23_2) rfl rfl k) ?_
  show Go p e below _ (s₁.setTop (mkF m 3 #[.val (.ref a1), .val (.int (1 : Int32)), .unset] [(.ref a1)]))
  obtain ⟨T2, X2, e2, st2⟩ := getF X0 hx hZ hown (host := "") (Or.inl (hw _ (List.mem_of_getElem? (i := 94) rfl))) Via.refl e0 F_previous_a1 (g := (mkF m 3 #[.val (.ref a1), .val (.int (1 : Int32)), .unset] [(.ref a1)])) rfl rfl (hb hby d23_3)
  refine Go.step st2 ?_
  show Go p e below _ (T2.setTop (mkF m 6 #[.val (.ref a1), .val (.int (1 : Int32)), .unset] [(.ref x1)]))
  refine Go.step (fun t k => XS.astoreN X2.here hx rfl (hb hby d23_6) rfl rfl (l' := #[.val (.ref a1), .val (.int (1 : Int32)), .val (.ref x1)]) rfl k) ?_
  show Go p e below _ (T2.setTop (mkF m 7 #[.val (.ref a1), .val (.int (1 : Int32)), .val (.ref x1)] []))
  refine Go.step (fun t k => XS.aloadN X2.here hx rfl (hb hby d23_7) rfl rfl k) ?_
  show Go p e below _ (T2.setTop (mkF m 8 #[.val (.ref a1), .val (.int (1 : Int32)), .val (.ref x1)] [(.ref x1)]))
  refine Go.step (fun t k => XS.ifnullNo X2.here hx rfl (hb hby d23_8) rfl k) ?_
  show Go p e below _ (T2.setTop (mkF m 11 #[.val (.ref a1), .val (.int (1 : Int32)), .val (.ref x1)] []))
  refine Go.step (fun t k => XS.aloadN X2.here hx rfl (hb hby d23_11) rfl rfl k) ?_
  show Go p e below _ (T2.setTop (mkF m 12 #[.val (.ref a1), .val (.int (1 : Int32)), .val (.ref x1)] [(.ref x1)]))
  obtain ⟨T3, X3, e3, st3⟩ := getF X2 hx hZ hown (host := "") (Or.inl (hw _ (List.mem_of_getElem? (i := 61) rfl))) Via.refl e2 F_name_x1 (g := (mkF m 12 #[.val (.ref a1), .val (.int (1 : Int32)), .val (.ref x1)] [(.ref x1)])) rfl rfl (hb hby d23_12)
  refine Go.step st3 ?_
  show Go p e below _ (T3.setTop (mkF m 15 #[.val (.ref a1), .val (.int (1 : Int32)), .val (.ref x1)] [(.ref o_name_x1)]))
  refine Go.step (fun t k => XS.aloadN X3.here hx rfl (hb hby d23_15) rfl rfl k) ?_
  show Go p e below _ (T3.setTop (mkF m 16 #[.val (.ref a1), .val (.int (1 : Int32)), .val (.ref x1)] [(.ref a1), (.ref o_name_x1)]))
  obtain ⟨T4, X4, e4, st4⟩ := getF X3 hx hZ hown (host := "") (Or.inl (hw _ (List.mem_of_getElem? (i := 61) rfl))) Via.refl e3 F_name_a1 (g := (mkF m 16 #[.val (.ref a1), .val (.int (1 : Int32)), .val (.ref x1)] [(.ref a1), (.ref o_name_x1)])) rfl rfl (hb hby d23_16)
  refine Go.step st4 ?_
  show Go p e below _ (T4.setTop (mkF m 19 #[.val (.ref a1), .val (.int (1 : Int32)), .val (.ref x1)] [(.ref o_name_a1), (.ref o_name_x1)]))
  obtain ⟨cq5, kq5, q5a, q5b, q5c⟩ := isOf hZ e4 E_o_name_x1
  obtain ⟨_, _, ⟨T5, L5, k5, n5⟩, -, X5, ⟨Lc5, hQ5, l5, y5, z5⟩, st5⟩ := X4.virtualBack hx (y := (⟨"java/lang/String", "equals", "(Ljava/lang/Object;)Z"⟩ : MethodName)) (z := (⟨"java/lang/String", "equals", "(Ljava/lang/Object;)Z"⟩ : MethodName)) hown (mvT hZ (hw _ (List.mem_of_getElem? (i := 156) rfl))) (mvT hZ (hw _ (List.mem_of_getElem? (i := 157) rfl))) (notFace_of_selects (args := #[]) (mvT hZ (hw _ (List.mem_of_getElem? (i := 159) rfl)))) (mvT hZ (hw _ (List.mem_of_getElem? (i := 159) rfl))) (mvT hZ (hw _ (List.mem_of_getElem? (i := 158) rfl))) (by decide) (backOf (W := 0) (rm24 l Z a0 hw [] o_name_x1 o_name_a1 o_value_o_name_x1 g_o_name_x1 o_value_o_name_a1 g_o_name_a1 wC h0 n0 Z0 E_o_name_x1 F_coder_o_name_x1 F_value_o_name_x1 A_o_value_o_name_x1 E_o_name_a1 F_coder_o_name_a1 F_value_o_name_a1 A_o_value_o_name_a1 hne_o_name_x1_o_name_a1 hC S_COMPACT_STRINGS hO) hZ (hw _ (List.mem_of_getElem? (i := 160) rfl)) (hw _ (List.mem_of_getElem? (i := 5) rfl)) (by decide) (by decide)) q5a q5c (g := (mkF m 19 #[.val (.ref a1), .val (.int (1 : Int32)), .val (.ref x1)] [(.ref o_name_a1), (.ref o_name_x1)])) rfl (by rw [hml]; rfl) (Steps.refl _) (argsL := [(.ref o_name_a1)]) (rest := []) (lenOf pd_8 rfl) rfl (by show 2 * 0 + _ ≤ _; exact Nat.le_of_eq rfl) (hb hby d23_19) (fun _ _ => ⟨rfl, e4, (by decide : 0 + 0 ≤ _), (by decide : 0 + 0 ≤ _)⟩)
  dsimp only [Pt.U, Pt.locs, Pt.cells, Pt.slots] at X5 l5 y5 z5 st5 hQ5
  subst l5 y5 z5
  obtain ⟨rfl, N5q, e5⟩ := hQ5
  have N5 := Fr.app N0 N5q
  refine Go.trans st5 ?_
  show Go p e below _ (T5.setTop (mkF m 22 #[.val (.ref a1), .val (.int (1 : Int32)), .val (.ref x1)] [(.int (f24 g_o_name_x1 g_o_name_a1 wC))]))
  obtain ⟨v7, hv7⟩ : ∃ z : Int32, z = (if (f24 g_o_name_x1 g_o_name_a1 wC) = (0 : Int32) then (1 : Int32) else (2 : Int32)) := ⟨_, rfl⟩
  have J22 : Go p e below (AtF p l e ({ frames := 2, cells := 0, slots := 0, locals := 28 } : Room) s m #[(.ref a1)] below meth c n0 0 0 h0 (mkF m 28 #[.val (.ref a1), .val (.int v7), .val (.ref x1)] [])) (T5.setTop (mkF m 22 #[.val (.ref a1), .val (.int (1 : Int32)), .val (.ref x1)] [(.int (f24 g_o_name_x1 g_o_name_a1 wC))])) := by
    by_cases hc6 : (f24 g_o_name_x1 g_o_name_a1 wC) = (0 : Int32)
    · refine Go.step (fun t k => XS.ifYes X5.here hx rfl (pc0 := 22) (pc' := 28) rfl (hb hby d23_22) rfl ((if0 _ _).trans (teq hc6).1) (by decide) (by decide) k) ?_
      show Go p e below _ (T5.setTop (mkF m 28 #[.val (.ref a1), .val (.int (1 : Int32)), .val (.ref x1)] []))
      exact Go.here ⟨_, _, by simp only [hv7, if_pos hc6], X5, N5, e5⟩
    · refine Go.step (fun t k => XS.ifNo X5.here hx rfl (hb hby d23_22) rfl ((if0 _ _).trans (feq hc6).1) k) ?_
      show Go p e below _ (T5.setTop (mkF m 25 #[.val (.ref a1), .val (.int (1 : Int32)), .val (.ref x1)] []))
      refine Go.step (fun t k => XS.iinc X5.here hx rfl (hb hby d23_25) rfl (l' := #[.val (.ref a1), .val (.int (2 : Int32)), .val (.ref x1)]) rfl k) ?_
      show Go p e below _ (T5.setTop (mkF m 28 #[.val (.ref a1), .val (.int (2 : Int32)), .val (.ref x1)] []))
      exact Go.here ⟨_, _, by simp only [hv7, if_neg hc6], X5, N5, e5⟩
  obtain ⟨_, st8, T8, Lj8, rfl, X8, N8, e8⟩ := J22
  refine Go.trans st8 ?_
  show Go p e below _ (T8.setTop (mkF m 28 #[.val (.ref a1), .val (.int v7), .val (.ref x1)] []))
  refine Go.step (fun t k => XS.aloadN X8.here hx rfl (hb hby d23_28) rfl rfl k) ?_
  show Go p e below _ (T8.setTop (mkF m 29 #[.val (.ref a1), .val (.int v7), .val (.ref x1)] [(.ref x1)]))
  obtain ⟨T9, X9, e9, st9⟩ := getF X8 hx hZ hown (host := "") (Or.inl (hw _ (List.mem_of_getElem? (i := 94) rfl))) Via.refl e8 F_previous_x1 (g := (mkF m 29 #[.val (.ref a1), .val (.int v7), .val (.ref x1)] [(.ref x1)])) rfl rfl (hb hby d23_29)
  refine Go.step st9 ?_
  show Go p e below _ (T9.setTop (mkF m 32 #[.val (.ref a1), .val (.int v7), .val (.ref x1)] [.null]))
  refine Go.step (fun t k => XS.astoreN X9.here hx rfl (hb hby d23_32) rfl rfl (l' := #[.val (.ref a1), .val (.int v7), .val .null]) rfl k) ?_
  show Go p e below _ (T9.setTop (mkF m 33 #[.val (.ref a1), .val (.int v7), .val .null] []))
  refine Go.step (fun t k => XS.goto X9.here hx rfl (pc0 := 33) (pc' := 7) rfl (hb hby d23_33) (by decide) (by decide) k) ?_
  show Go p e below _ (T9.setTop (mkF m 7 #[.val (.ref a1), .val (.int v7), .val .null] []))
  refine Go.step (fun t k => XS.aloadN X9.here hx rfl (hb hby d23_7) rfl rfl k) ?_
  show Go p e below _ (T9.setTop (mkF m 8 #[.val (.ref a1), .val (.int v7), .val .null] [.null]))
  refine Go.step (fun t k => XS.ifnullYes X9.here hx rfl (pc0 := 8) (pc' := 36) rfl (hb hby d23_8) rfl (by decide) (by decide) k) ?_
  show Go p e below _ (T9.setTop (mkF m 36 #[.val (.ref a1), .val (.int v7), .val .null] []))
  refine Go.step (fun t k => XS.iloadN X9.here hx rfl (hb hby d23_36) rfl k) ?_
  show Go p e below _ (T9.setTop (mkF m 37 #[.val (.ref a1), .val (.int v7), .val .null] [(.int v7)]))
  subst hv7
  exact retGI X9 hx Bd.notSynchronized Bd.returns (hb hby d23_37) ⟨by first | rfl | (simp only [f23_1]; done) | (simp [f23_1]; done), N8, e9⟩ (by decide) (by decide)
theorem ef_23_2 (m : MethodId) (a1 : Addr) : entryFrame m #[(.ref a1)] 3 = mkF m 0 #[.val (.ref a1), .unset, .unset] [] := by first | (simp [entryFrame, mkF, argsToLocals, Value.category]; done) | rfl
def f23_2 (g_o_name_a1 : Nat → Int32) (g_o_name_x1 : Nat → Int32) (g_o_name_x2 : Nat → Int32) (wC : Int32) : Int32 := (if (f24 g_o_name_x2 g_o_name_a1 wC) = (0 : Int32) then (if (f24 g_o_name_x1 g_o_name_a1 wC) = (0 : Int32) then (1 : Int32) else (2 : Int32)) else ((if (f24 g_o_name_x1 g_o_name_a1 wC) = (0 : Int32) then (1 : Int32) else (2 : Int32)) + (1 : Int32)))
set_option maxRecDepth 65536 in
set_option maxHeartbeats 40000000 in
theorem rm23_2 (l : Launch) (Z : State) (a0 : Array Value) (hw : ∀ d ∈ tables_1, d.before a0 Z = true) (ws : List Jvm.Cond) (a1 : Addr) (x1 : Addr) (o_name_a1 : Addr) (o_value_o_name_a1 : Addr) (g_o_name_a1 : Nat → Int32) (o_name_x1 : Addr) (o_value_o_name_x1 : Addr) (g_o_name_x1 : Nat → Int32) (x2 : Addr) (o_name_x2 : Addr) (o_value_o_name_x2 : Addr) (g_o_name_x2 : Nat → Int32) (wC : Int32) (h0 : Heap) (n0 : Nat) (Z0 : n0 ≤ h0.size) (F_previous_a1 : Fld Z h0 a1 "com/example/dataflow_to_dispatch/dataflowtodispatch/model/document/XmlElement" "previous" "Lcom/example/dataflow_to_dispatch/dataflowtodispatch/model/document/XmlElement;" (.ref x1)) (F_name_a1 : Fld Z h0 a1 "com/example/dataflow_to_dispatch/dataflowtodispatch/model/document/XmlElement" "name" "Ljava/lang/String;" (.ref o_name_a1)) (E_o_name_a1 : Exa Z h0 o_name_a1 "java/lang/String") (F_coder_o_name_a1 : Fld Z h0 o_name_a1 "java/lang/String" "coder" "B" (.int (0 : Int32))) (F_value_o_name_a1 : Fld Z h0 o_name_a1 "java/lang/String" "value" "[B" (.ref o_value_o_name_a1)) (A_o_value_o_name_a1 : Ary Z h0 o_value_o_name_a1 .byte 1 (fun i => .int (g_o_name_a1 i))) (F_name_x1 : Fld Z h0 x1 "com/example/dataflow_to_dispatch/dataflowtodispatch/model/document/XmlElement" "name" "Ljava/lang/String;" (.ref o_name_x1)) (E_o_name_x1 : Exa Z h0 o_name_x1 "java/lang/String") (F_coder_o_name_x1 : Fld Z h0 o_name_x1 "java/lang/String" "coder" "B" (.int (0 : Int32))) (F_value_o_name_x1 : Fld Z h0 o_name_x1 "java/lang/String" "value" "[B" (.ref o_value_o_name_x1)) (A_o_value_o_name_x1 : Ary Z h0 o_value_o_name_x1 .byte 1 (fun i => .int (g_o_name_x1 i))) (F_previous_x1 : Fld Z h0 x1 "com/example/dataflow_to_dispatch/dataflowtodispatch/model/document/XmlElement" "previous" "Lcom/example/dataflow_to_dispatch/dataflowtodispatch/model/document/XmlElement;" (.ref x2)) (F_name_x2 : Fld Z h0 x2 "com/example/dataflow_to_dispatch/dataflowtodispatch/model/document/XmlElement" "name" "Ljava/lang/String;" (.ref o_name_x2)) (E_o_name_x2 : Exa Z h0 o_name_x2 "java/lang/String") (F_coder_o_name_x2 : Fld Z h0 o_name_x2 "java/lang/String" "coder" "B" (.int (0 : Int32))) (F_value_o_name_x2 : Fld Z h0 o_name_x2 "java/lang/String" "value" "[B" (.ref o_value_o_name_x2)) (A_o_value_o_name_x2 : Ary Z h0 o_value_o_name_x2 .byte 1 (fun i => .int (g_o_name_x2 i))) (F_previous_x2 : Fld Z h0 x2 "com/example/dataflow_to_dispatch/dataflowtodispatch/model/document/XmlElement" "previous" "Lcom/example/dataflow_to_dispatch/dataflowtodispatch/model/document/XmlElement;" .null) (hC : ¬ (wC = (0 : Int32))) (S_COMPACT_STRINGS : Sta Z Z.heap "java/lang/String" "COMPACT_STRINGS" "Z" (.int wC)) (hO : Old Z n0 h0) (hne_o_name_x1_o_name_a1 : o_name_x1 ≠ o_name_a1) (hne_o_name_x2_o_name_a1 : o_name_x2 ≠ o_name_a1) :
    MetFree l (⟨"com/example/dataflow_to_dispatch/dataflowtodispatch/model/document/XmlElement", "position", "()I"⟩ : MethodName) (head1 (Jvm.Cond.code (⟨"com/example/dataflow_to_dispatch/dataflowtodispatch/model/document/XmlElement", "position", "()I"⟩ : MethodName) prog_109_method_7_code 3 (some .int) :: ws) ({ frames := 2, cells := 0, slots := 0, locals := 28 } : Room)) (fun a U => a = #[(.ref a1)] ∧ Z.Warmed39 U.vm ∧ U.heap = h0) (fun _ _ _ _ _ => True) (fun _ U o U' => ∃ v L, o = .returned v ∧ QP (.int (f23_2 g_o_name_a1 g_o_name_x1 g_o_name_x2 wC)) h0 n0 v U'.heap L ∧ FrameEnd U o U' L ({ frames := 2, cells := 0, slots := 0, locals := 28 } : Room).cells ({ frames := 2, cells := 0, slots := 0, locals := 28 } : Room).slots) := by
  refine MetFree.of_bodySF (plainFor_of_name pn_5) hisR ?_
  intro p e s m args below meth c s₁ Bd hml0 hP hK
  obtain ⟨rfl, hZ, hh⟩ := hP
  have hx := Bd.exec
  have hby := Bd.bytes
  have hml : c.maxLocals = 3 := hml0
  have hown : s.vm.findClass "com/example/dataflow_to_dispatch/dataflowtodispatch/model/document/XmlElement" = some m.cls := findClass_of_methodNamed Bd.named
  have hnm := (name_of_methodNamed Bd.named Bd.method).1
  have X0 : Stand p l e ({ frames := 2, cells := 0, slots := 0, locals := 28 } : Room) s m #[(.ref a1)] below meth c s₁ [] 0 0 := Stand.of_body Bd
  have e0 : s₁.heap = h0 := by rw [← hh, Bd.state]; rfl
  have N0 := Fr.nil n0
  refine Go.done (Go.step (fun t k => castTop (ef_23_2 m a1) k) ?_)
  have KK0 : Keep h0 h0 [] := Keep.refl _ _
  show Go p e below _ (s₁.setTop (mkF m 0 #[.val (.ref a1), .unset, .unset] []))
  refine Go.step (fun t k => XS.iconst X0.here hx rfl (hb hby d23_0)  k) ?_
  show Go p e below _ (s₁.setTop (mkF m 1 #[.val (.ref a1), .unset, .unset] [(.int (1 : Int32))]))
  refine Go.step (fun t k => XS.istoreN X0.here hx rfl (hb hby d23_1) rfl (l' := #[.val (.ref a1), .val (.int (1 : Int32)), .unset]) rfl k) ?_
  show Go p e below _ (s₁.setTop (mkF m 2 #[.val (.ref a1), .val (.int (1 : Int32)), .unset] []))
  refine Go.step (fun t k => XS.aloadN X0.here hx rfl (hb hby d23_2) rfl rfl k) ?_
  show Go p e below _ (s₁.setTop (mkF m 3 #[.val (.ref a1), .val (.int (1 : Int32)), .unset] [(.ref a1)]))
  obtain ⟨T2, X2, e2, st2⟩ := getF X0 hx hZ hown (host := "") (Or.inl (hw _ (List.mem_of_getElem? (i := 94) rfl))) Via.refl e0 F_previous_a1 (g := (mkF m 3 #[.val (.ref a1), .val (.int (1 : Int32)), .unset] [(.ref a1)])) rfl rfl (hb hby d23_3)
  refine Go.step st2 ?_
  show Go p e below _ (T2.setTop (mkF m 6 #[.val (.ref a1), .val (.int (1 : Int32)), .unset] [(.ref x1)]))
  refine Go.step (fun t k => XS.astoreN X2.here hx rfl (hb hby d23_6) rfl rfl (l' := #[.val (.ref a1), .val (.int (1 : Int32)), .val (.ref x1)]) rfl k) ?_
  show Go p e below _ (T2.setTop (mkF m 7 #[.val (.ref a1), .val (.int (1 : Int32)), .val (.ref x1)] []))
  refine Go.step (fun t k => XS.aloadN X2.here hx rfl (hb hby d23_7) rfl rfl k) ?_
  show Go p e below _ (T2.setTop (mkF m 8 #[.val (.ref a1), .val (.int (1 : Int32)), .val (.ref x1)] [(.ref x1)]))
  refine Go.step (fun t k => XS.ifnullNo X2.here hx rfl (hb hby d23_8) rfl k) ?_
  show Go p e below _ (T2.setTop (mkF m 11 #[.val (.ref a1), .val (.int (1 : Int32)), .val (.ref x1)] []))
  refine Go.step (fun t k => XS.aloadN X2.here hx rfl (hb hby d23_11) rfl rfl k) ?_
  show Go p e below _ (T2.setTop (mkF m 12 #[.val (.ref a1), .val (.int (1 : Int32)), .val (.ref x1)] [(.ref x1)]))
  obtain ⟨T3, X3, e3, st3⟩ := getF X2 hx hZ hown (host := "") (Or.inl (hw _ (List.mem_of_getElem? (i := 61) rfl))) Via.refl e2 F_name_x1 (g := (mkF m 12 #[.val (.ref a1), .val (.int (1 : Int32)), .val (.ref x1)] [(.ref x1)])) rfl rfl (hb hby d23_12)
  refine Go.step st3 ?_
  show Go p e below _ (T3.setTop (mkF m 15 #[.val (.ref a1), .val (.int (1 : Int32)), .val (.ref x1)] [(.ref o_name_x1)]))
  refine Go.step (fun t k => XS.aloadN X3.here hx rfl (hb hby d23_15) rfl rfl k) ?_
  show Go p e below _ (T3.setTop (mkF m 16 #[.val (.ref a1), .val (.int (1 : Int32)), .val (.ref x1)] [(.ref a1), (.ref o_name_x1)]))
  obtain ⟨T4, X4, e4, st4⟩ := getF X3 hx hZ hown (host := "") (Or.inl (hw _ (List.mem_of_getElem? (i := 61) rfl))) Via.refl e3 F_name_a1 (g := (mkF m 16 #[.val (.ref a1), .val (.int (1 : Int32)), .val (.ref x1)] [(.ref a1), (.ref o_name_x1)])) rfl rfl (hb hby d23_16)
  refine Go.step st4 ?_
  show Go p e below _ (T4.setTop (mkF m 19 #[.val (.ref a1), .val (.int (1 : Int32)), .val (.ref x1)] [(.ref o_name_a1), (.ref o_name_x1)]))
  obtain ⟨cq5, kq5, q5a, q5b, q5c⟩ := isOf hZ e4 E_o_name_x1
  obtain ⟨_, _, ⟨T5, L5, k5, n5⟩, -, X5, ⟨Lc5, hQ5, l5, y5, z5⟩, st5⟩ := X4.virtualBack hx (y := (⟨"java/lang/String", "equals", "(Ljava/lang/Object;)Z"⟩ : MethodName)) (z := (⟨"java/lang/String", "equals", "(Ljava/lang/Object;)Z"⟩ : MethodName)) hown (mvT hZ (hw _ (List.mem_of_getElem? (i := 156) rfl))) (mvT hZ (hw _ (List.mem_of_getElem? (i := 157) rfl))) (notFace_of_selects (args := #[]) (mvT hZ (hw _ (List.mem_of_getElem? (i := 159) rfl)))) (mvT hZ (hw _ (List.mem_of_getElem? (i := 159) rfl))) (mvT hZ (hw _ (List.mem_of_getElem? (i := 158) rfl))) (by decide) (backOf (W := 0) (rm24 l Z a0 hw [] o_name_x1 o_name_a1 o_value_o_name_x1 g_o_name_x1 o_value_o_name_a1 g_o_name_a1 wC h0 n0 Z0 E_o_name_x1 F_coder_o_name_x1 F_value_o_name_x1 A_o_value_o_name_x1 E_o_name_a1 F_coder_o_name_a1 F_value_o_name_a1 A_o_value_o_name_a1 hne_o_name_x1_o_name_a1 hC S_COMPACT_STRINGS hO) hZ (hw _ (List.mem_of_getElem? (i := 160) rfl)) (hw _ (List.mem_of_getElem? (i := 5) rfl)) (by decide) (by decide)) q5a q5c (g := (mkF m 19 #[.val (.ref a1), .val (.int (1 : Int32)), .val (.ref x1)] [(.ref o_name_a1), (.ref o_name_x1)])) rfl (by rw [hml]; rfl) (Steps.refl _) (argsL := [(.ref o_name_a1)]) (rest := []) (lenOf pd_8 rfl) rfl (by show 2 * 0 + _ ≤ _; exact Nat.le_of_eq rfl) (hb hby d23_19) (fun _ _ => ⟨rfl, e4, (by decide : 0 + 0 ≤ _), (by decide : 0 + 0 ≤ _)⟩)
  dsimp only [Pt.U, Pt.locs, Pt.cells, Pt.slots] at X5 l5 y5 z5 st5 hQ5
  subst l5 y5 z5
  obtain ⟨rfl, N5q, e5⟩ := hQ5
  have N5 := Fr.app N0 N5q
  refine Go.trans st5 ?_
  show Go p e below _ (T5.setTop (mkF m 22 #[.val (.ref a1), .val (.int (1 : Int32)), .val (.ref x1)] [(.int (f24 g_o_name_x1 g_o_name_a1 wC))]))
  obtain ⟨v7, hv7⟩ : ∃ z : Int32, z = (if (f24 g_o_name_x1 g_o_name_a1 wC) = (0 : Int32) then (1 : Int32) else (2 : Int32)) := ⟨_, rfl⟩
  have J22 : Go p e below (AtF p l e ({ frames := 2, cells := 0, slots := 0, locals := 28 } : Room) s m #[(.ref a1)] below meth c n0 0 0 h0 (mkF m 28 #[.val (.ref a1), .val (.int v7), .val (.ref x1)] [])) (T5.setTop (mkF m 22 #[.val (.ref a1), .val (.int (1 : Int32)), .val (.ref x1)] [(.int (f24 g_o_name_x1 g_o_name_a1 wC))])) := by
    by_cases hc6 : (f24 g_o_name_x1 g_o_name_a1 wC) = (0 : Int32)
    · refine Go.step (fun t k => XS.ifYes X5.here hx rfl (pc0 := 22) (pc' := 28) rfl (hb hby d23_22) rfl ((if0 _ _).trans (teq hc6).1) (by decide) (by decide) k) ?_
      show Go p e below _ (T5.setTop (mkF m 28 #[.val (.ref a1), .val (.int (1 : Int32)), .val (.ref x1)] []))
      exact Go.here ⟨_, _, by simp only [hv7, if_pos hc6], X5, N5, e5⟩
    · refine Go.step (fun t k => XS.ifNo X5.here hx rfl (hb hby d23_22) rfl ((if0 _ _).trans (feq hc6).1) k) ?_
      show Go p e below _ (T5.setTop (mkF m 25 #[.val (.ref a1), .val (.int (1 : Int32)), .val (.ref x1)] []))
      refine Go.step (fun t k => XS.iinc X5.here hx rfl (hb hby d23_25) rfl (l' := #[.val (.ref a1), .val (.int (2 : Int32)), .val (.ref x1)]) rfl k) ?_
      show Go p e below _ (T5.setTop (mkF m 28 #[.val (.ref a1), .val (.int (2 : Int32)), .val (.ref x1)] []))
      exact Go.here ⟨_, _, by simp only [hv7, if_neg hc6], X5, N5, e5⟩
  obtain ⟨_, st8, T8, Lj8, rfl, X8, N8, e8⟩ := J22
  refine Go.trans st8 ?_
  show Go p e below _ (T8.setTop (mkF m 28 #[.val (.ref a1), .val (.int v7), .val (.ref x1)] []))
  refine Go.step (fun t k => XS.aloadN X8.here hx rfl (hb hby d23_28) rfl rfl k) ?_
  show Go p e below _ (T8.setTop (mkF m 29 #[.val (.ref a1), .val (.int v7), .val (.ref x1)] [(.ref x1)]))
  obtain ⟨T9, X9, e9, st9⟩ := getF X8 hx hZ hown (host := "") (Or.inl (hw _ (List.mem_of_getElem? (i := 94) rfl))) Via.refl e8 F_previous_x1 (g := (mkF m 29 #[.val (.ref a1), .val (.int v7), .val (.ref x1)] [(.ref x1)])) rfl rfl (hb hby d23_29)
  refine Go.step st9 ?_
  show Go p e below _ (T9.setTop (mkF m 32 #[.val (.ref a1), .val (.int v7), .val (.ref x1)] [(.ref x2)]))
  refine Go.step (fun t k => XS.astoreN X9.here hx rfl (hb hby d23_32) rfl rfl (l' := #[.val (.ref a1), .val (.int v7), .val (.ref x2)]) rfl k) ?_
  show Go p e below _ (T9.setTop (mkF m 33 #[.val (.ref a1), .val (.int v7), .val (.ref x2)] []))
  refine Go.step (fun t k => XS.goto X9.here hx rfl (pc0 := 33) (pc' := 7) rfl (hb hby d23_33) (by decide) (by decide) k) ?_
  show Go p e below _ (T9.setTop (mkF m 7 #[.val (.ref a1), .val (.int v7), .val (.ref x2)] []))
  refine Go.step (fun t k => XS.aloadN X9.here hx rfl (hb hby d23_7) rfl rfl k) ?_
  show Go p e below _ (T9.setTop (mkF m 8 #[.val (.ref a1), .val (.int v7), .val (.ref x2)] [(.ref x2)]))
  refine Go.step (fun t k => XS.ifnullNo X9.here hx rfl (hb hby d23_8) rfl k) ?_
  show Go p e below _ (T9.setTop (mkF m 11 #[.val (.ref a1), .val (.int v7), .val (.ref x2)] []))
  refine Go.step (fun t k => XS.aloadN X9.here hx rfl (hb hby d23_11) rfl rfl k) ?_
  show Go p e below _ (T9.setTop (mkF m 12 #[.val (.ref a1), .val (.int v7), .val (.ref x2)] [(.ref x2)]))
  obtain ⟨T10, X10, e10, st10⟩ := getF X9 hx hZ hown (host := "") (Or.inl (hw _ (List.mem_of_getElem? (i := 61) rfl))) Via.refl e9 F_name_x2 (g := (mkF m 12 #[.val (.ref a1), .val (.int v7), .val (.ref x2)] [(.ref x2)])) rfl rfl (hb hby d23_12)
  refine Go.step st10 ?_
  show Go p e below _ (T10.setTop (mkF m 15 #[.val (.ref a1), .val (.int v7), .val (.ref x2)] [(.ref o_name_x2)]))
  refine Go.step (fun t k => XS.aloadN X10.here hx rfl (hb hby d23_15) rfl rfl k) ?_
  show Go p e below _ (T10.setTop (mkF m 16 #[.val (.ref a1), .val (.int v7), .val (.ref x2)] [(.ref a1), (.ref o_name_x2)]))
  obtain ⟨T11, X11, e11, st11⟩ := getF X10 hx hZ hown (host := "") (Or.inl (hw _ (List.mem_of_getElem? (i := 61) rfl))) Via.refl e10 F_name_a1 (g := (mkF m 16 #[.val (.ref a1), .val (.int v7), .val (.ref x2)] [(.ref a1), (.ref o_name_x2)])) rfl rfl (hb hby d23_16)
  refine Go.step st11 ?_
  show Go p e below _ (T11.setTop (mkF m 19 #[.val (.ref a1), .val (.int v7), .val (.ref x2)] [(.ref o_name_a1), (.ref o_name_x2)]))
  obtain ⟨cq12, kq12, q12a, q12b, q12c⟩ := isOf hZ e11 E_o_name_x2
  obtain ⟨_, _, ⟨T12, L12, k12, n12⟩, -, X12, ⟨Lc12, hQ12, l12, y12, z12⟩, st12⟩ := X11.virtualBack hx (y := (⟨"java/lang/String", "equals", "(Ljava/lang/Object;)Z"⟩ : MethodName)) (z := (⟨"java/lang/String", "equals", "(Ljava/lang/Object;)Z"⟩ : MethodName)) hown (mvT hZ (hw _ (List.mem_of_getElem? (i := 156) rfl))) (mvT hZ (hw _ (List.mem_of_getElem? (i := 157) rfl))) (notFace_of_selects (args := #[]) (mvT hZ (hw _ (List.mem_of_getElem? (i := 159) rfl)))) (mvT hZ (hw _ (List.mem_of_getElem? (i := 159) rfl))) (mvT hZ (hw _ (List.mem_of_getElem? (i := 158) rfl))) (by decide) (backOf (W := 0) (rm24 l Z a0 hw [] o_name_x2 o_name_a1 o_value_o_name_x2 g_o_name_x2 o_value_o_name_a1 g_o_name_a1 wC h0 n0 Z0 E_o_name_x2 F_coder_o_name_x2 F_value_o_name_x2 A_o_value_o_name_x2 E_o_name_a1 F_coder_o_name_a1 F_value_o_name_a1 A_o_value_o_name_a1 hne_o_name_x2_o_name_a1 hC S_COMPACT_STRINGS hO) hZ (hw _ (List.mem_of_getElem? (i := 160) rfl)) (hw _ (List.mem_of_getElem? (i := 5) rfl)) (by decide) (by decide)) q12a q12c (g := (mkF m 19 #[.val (.ref a1), .val (.int v7), .val (.ref x2)] [(.ref o_name_a1), (.ref o_name_x2)])) rfl (by rw [hml]; rfl) (Steps.refl _) (argsL := [(.ref o_name_a1)]) (rest := []) (lenOf pd_8 rfl) rfl (by show 2 * 0 + _ ≤ _; exact Nat.le_of_eq rfl) (hb hby d23_19) (fun _ _ => ⟨rfl, e11, (by decide : 0 + 0 ≤ _), (by decide : 0 + 0 ≤ _)⟩)
  dsimp only [Pt.U, Pt.locs, Pt.cells, Pt.slots] at X12 l12 y12 z12 st12 hQ12
  subst l12 y12 z12
  obtain ⟨rfl, N12q, e12⟩ := hQ12
  have N12 := Fr.app N8 N12q
  refine Go.trans st12 ?_
  show Go p e below _ (T12.setTop (mkF m 22 #[.val (.ref a1), .val (.int v7), .val (.ref x2)] [(.int (f24 g_o_name_x2 g_o_name_a1 wC))]))
  obtain ⟨v14, hv14⟩ : ∃ z : Int32, z = (if (f24 g_o_name_x2 g_o_name_a1 wC) = (0 : Int32) then v7 else (v7 + (1 : Int32))) := ⟨_, rfl⟩
  have J22 : Go p e below (AtF p l e ({ frames := 2, cells := 0, slots := 0, locals := 28 } : Room) s m #[(.ref a1)] below meth c n0 0 0 h0 (mkF m 28 #[.val (.ref a1), .val (.int v14), .val (.ref x2)] [])) (T12.setTop (mkF m 22 #[.val (.ref a1), .val (.int v7), .val (.ref x2)] [(.int (f24 g_o_name_x2 g_o_name_a1 wC))])) := by
    by_cases hc13 : (f24 g_o_name_x2 g_o_name_a1 wC) = (0 : Int32)
    · refine Go.step (fun t k => XS.ifYes X12.here hx rfl (pc0 := 22) (pc' := 28) rfl (hb hby d23_22) rfl ((if0 _ _).trans (teq hc13).1) (by decide) (by decide) k) ?_
      show Go p e below _ (T12.setTop (mkF m 28 #[.val (.ref a1), .val (.int v7), .val (.ref x2)] []))
      exact Go.here ⟨_, _, by simp only [hv14, if_pos hc13], X12, N12, e12⟩
    · refine Go.step (fun t k => XS.ifNo X12.here hx rfl (hb hby d23_22) rfl ((if0 _ _).trans (feq hc13).1) k) ?_
      show Go p e below _ (T12.setTop (mkF m 25 #[.val (.ref a1), .val (.int v7), .val (.ref x2)] []))
      refine Go.step (fun t k => XS.iinc X12.here hx rfl (hb hby d23_25) rfl (l' := #[.val (.ref a1), .val (.int (v7 + (1 : Int32))), .val (.ref x2)]) rfl k) ?_
      show Go p e below _ (T12.setTop (mkF m 28 #[.val (.ref a1), .val (.int (v7 + (1 : Int32))), .val (.ref x2)] []))
      exact Go.here ⟨_, _, by simp only [hv14, if_neg hc13], X12, N12, e12⟩
  obtain ⟨_, st15, T15, Lj15, rfl, X15, N15, e15⟩ := J22
  refine Go.trans st15 ?_
  show Go p e below _ (T15.setTop (mkF m 28 #[.val (.ref a1), .val (.int v14), .val (.ref x2)] []))
  refine Go.step (fun t k => XS.aloadN X15.here hx rfl (hb hby d23_28) rfl rfl k) ?_
  show Go p e below _ (T15.setTop (mkF m 29 #[.val (.ref a1), .val (.int v14), .val (.ref x2)] [(.ref x2)]))
  obtain ⟨T16, X16, e16, st16⟩ := getF X15 hx hZ hown (host := "") (Or.inl (hw _ (List.mem_of_getElem? (i := 94) rfl))) Via.refl e15 F_previous_x2 (g := (mkF m 29 #[.val (.ref a1), .val (.int v14), .val (.ref x2)] [(.ref x2)])) rfl rfl (hb hby d23_29)
  refine Go.step st16 ?_
  show Go p e below _ (T16.setTop (mkF m 32 #[.val (.ref a1), .val (.int v14), .val (.ref x2)] [.null]))
  refine Go.step (fun t k => XS.astoreN X16.here hx rfl (hb hby d23_32) rfl rfl (l' := #[.val (.ref a1), .val (.int v14), .val .null]) rfl k) ?_
  show Go p e below _ (T16.setTop (mkF m 33 #[.val (.ref a1), .val (.int v14), .val .null] []))
  refine Go.step (fun t k => XS.goto X16.here hx rfl (pc0 := 33) (pc' := 7) rfl (hb hby d23_33) (by decide) (by decide) k) ?_
  show Go p e below _ (T16.setTop (mkF m 7 #[.val (.ref a1), .val (.int v14), .val .null] []))
  refine Go.step (fun t k => XS.aloadN X16.here hx rfl (hb hby d23_7) rfl rfl k) ?_
  show Go p e below _ (T16.setTop (mkF m 8 #[.val (.ref a1), .val (.int v14), .val .null] [.null]))
  refine Go.step (fun t k => XS.ifnullYes X16.here hx rfl (pc0 := 8) (pc' := 36) rfl (hb hby d23_8) rfl (by decide) (by decide) k) ?_
  show Go p e below _ (T16.setTop (mkF m 36 #[.val (.ref a1), .val (.int v14), .val .null] []))
  refine Go.step (fun t k => XS.iloadN X16.here hx rfl (hb hby d23_36) rfl k) ?_
  show Go p e below _ (T16.setTop (mkF m 37 #[.val (.ref a1), .val (.int v14), .val .null] [(.int v14)]))
  subst hv14
  subst hv7
  exact retGI X16 hx Bd.notSynchronized Bd.returns (hb hby d23_37) ⟨by first | rfl | (simp only [f23_2]; done) | (simp [f23_2]; done), N15, e16⟩ (by decide) (by decide)
theorem pd_13 : parseMethodDescriptor "(C)Ljava/lang/String;" = some ⟨[.char], some (.object "java/lang/String")⟩ := by decide +kernel
theorem pd_14 : parseMethodDescriptor "(Ljava/lang/String;)V" = some ⟨[(.object "java/lang/String")], none⟩ := by decide +kernel
theorem pd_15 : parseMethodDescriptor "()Ljava/util/List;" = some ⟨[], some (.object "java/util/List")⟩ := by decide +kernel
theorem pd_16 : parseMethodDescriptor "()I" = some ⟨[], some .int⟩ := by decide +kernel
theorem pd_17 : parseMethodDescriptor "(Lcom/example/dataflow_to_dispatch/dataflowtodispatch/model/document/XmlElement;)Lcom/example/dataflow_to_dispatch/dataflowtodispatch/model/document/XmlElement;" = some ⟨[(.object "com/example/dataflow_to_dispatch/dataflowtodispatch/model/document/XmlElement")], some (.object "com/example/dataflow_to_dispatch/dataflowtodispatch/model/document/XmlElement")⟩ := by decide +kernel
theorem ef_0 (m : MethodId) (p1 : Int32) (p2 : Int32) : entryFrame m #[(.int p1), (.int p2)] maxLocals = mkF m 0 #[.val (.int p1), .val (.int p2), .unset, .unset, .unset, .unset, .unset, .unset, .unset, .unset, .unset, .unset] [] := by first | (simp [entryFrame, mkF, argsToLocals, Value.category, maxLocals]; done) | rfl
theorem pn_8 : plainName "com/example/dataflow_to_dispatch/dataflowtodispatch/model/document/XmlElementAppendPinLaw" = true := by first | (simp [plainName, overriddenIn]; done) | decide +kernel
def f0 (p1 : Int32) (p2 : Int32) (wC : Int32) : Int32 := (if (p1 &&& (3 : Int32)) = (0 : Int32) then (1 : Int32) else (if (p1 &&& (3 : Int32)) = (1 : Int32) then (if f23_0 = (1 : Int32) then (1 : Int32) else (0 : Int32)) else (if (p1 &&& (3 : Int32)) = (2 : Int32) then (if f23_0 = (1 : Int32) then (if (f23_1 (upA (fun _ => (0 : Int32)) 0 (nar .byte ((((97 : Int32) + (((p2.toUInt32 >>> ((1 : Int32) &&& 31).toUInt32).toInt32) &&& (1 : Int32))).toUInt32.toUInt16.toUInt32.toInt32).toInt8.toInt32))) (upA (fun _ => (0 : Int32)) 0 (nar .byte ((((97 : Int32) + (p2 &&& (1 : Int32))).toUInt32.toUInt16.toUInt32.toInt32).toInt8.toInt32))) wC) = ((1 : Int32) + (if (((97 : Int32) + (p2 &&& (1 : Int32))).toUInt32.toUInt16.toUInt32.toInt32) = (((97 : Int32) + (((p2.toUInt32 >>> ((1 : Int32) &&& 31).toUInt32).toInt32) &&& (1 : Int32))).toUInt32.toUInt16.toUInt32.toInt32) then (1 : Int32) else (0 : Int32))) then (1 : Int32) else (0 : Int32)) else (0 : Int32)) else (if f23_0 = (1 : Int32) then (if (f23_1 (upA (fun _ => (0 : Int32)) 0 (nar .byte ((((97 : Int32) + (((p2.toUInt32 >>> ((1 : Int32) &&& 31).toUInt32).toInt32) &&& (1 : Int32))).toUInt32.toUInt16.toUInt32.toInt32).toInt8.toInt32))) (upA (fun _ => (0 : Int32)) 0 (nar .byte ((((97 : Int32) + (p2 &&& (1 : Int32))).toUInt32.toUInt16.toUInt32.toInt32).toInt8.toInt32))) wC) = ((1 : Int32) + (if (((97 : Int32) + (p2 &&& (1 : Int32))).toUInt32.toUInt16.toUInt32.toInt32) = (((97 : Int32) + (((p2.toUInt32 >>> ((1 : Int32) &&& 31).toUInt32).toInt32) &&& (1 : Int32))).toUInt32.toUInt16.toUInt32.toInt32) then (1 : Int32) else (0 : Int32))) then (if (f23_2 (upA (fun _ => (0 : Int32)) 0 (nar .byte ((((97 : Int32) + (((p2.toUInt32 >>> ((2 : Int32) &&& 31).toUInt32).toInt32) &&& (1 : Int32))).toUInt32.toUInt16.toUInt32.toInt32).toInt8.toInt32))) (upA (fun _ => (0 : Int32)) 0 (nar .byte ((((97 : Int32) + (((p2.toUInt32 >>> ((1 : Int32) &&& 31).toUInt32).toInt32) &&& (1 : Int32))).toUInt32.toUInt16.toUInt32.toInt32).toInt8.toInt32))) (upA (fun _ => (0 : Int32)) 0 (nar .byte ((((97 : Int32) + (p2 &&& (1 : Int32))).toUInt32.toUInt16.toUInt32.toInt32).toInt8.toInt32))) wC) = (((1 : Int32) + (if (((97 : Int32) + (p2 &&& (1 : Int32))).toUInt32.toUInt16.toUInt32.toInt32) = (((97 : Int32) + (((p2.toUInt32 >>> ((2 : Int32) &&& 31).toUInt32).toInt32) &&& (1 : Int32))).toUInt32.toUInt16.toUInt32.toInt32) then (1 : Int32) else (0 : Int32))) + (if (((97 : Int32) + (((p2.toUInt32 >>> ((1 : Int32) &&& 31).toUInt32).toInt32) &&& (1 : Int32))).toUInt32.toUInt16.toUInt32.toInt32) = (((97 : Int32) + (((p2.toUInt32 >>> ((2 : Int32) &&& 31).toUInt32).toInt32) &&& (1 : Int32))).toUInt32.toUInt16.toUInt32.toInt32) then (1 : Int32) else (0 : Int32))) then (1 : Int32) else (0 : Int32)) else (0 : Int32)) else (0 : Int32)))))
set_option maxRecDepth 65536 in
set_option maxHeartbeats 40000000 in
theorem rm0 (l : Launch) (Z : State) (a0 : Array Value) (hw : ∀ d ∈ tables_1, d.before a0 Z = true) (ws : List Jvm.Cond) (p1 : Int32) (p2 : Int32) (wC : Int32) (oD : Addr) (h0 : Heap) (n0 : Nat) (Z0 : n0 ≤ h0.size) (hO : Old Z n0 h0) (hC : ¬ (wC = (0 : Int32))) (S_COMPACT_STRINGS : Sta Z Z.heap "java/lang/String" "COMPACT_STRINGS" "Z" (.int wC)) (S_DEFAULTCAPACITY_EMPTY_ELEMENTDATA : Sta Z Z.heap "java/util/ArrayList" "DEFAULTCAPACITY_EMPTY_ELEMENTDATA" "[Ljava/lang/Object;" (.ref oD)) (A_DEFAULTCAPACITY_EMPTY_ELEMENTDATA : Ary Z Z.heap oD (.object "java/lang/Object") 0 (fun _ => Value.null)) :
    MetFree l x (head1 (Jvm.Cond.code x code maxLocals ret :: ws) room_1) (fun a U => a = #[(.int p1), (.int p2)] ∧ Z.Warmed39 U.vm ∧ U.heap = h0) (fun _ _ _ _ _ => True) (fun _ U o U' => ∃ v L, o = .returned v ∧ QL (.int (f0 p1 p2 wC)) n0 v U'.heap L ∧ FrameEnd U o U' L room_1.cells room_1.slots) := by
  refine MetFree.of_bodySF (plainFor_of_name pn_8) hisR ?_
  intro p e s m args below meth c s₁ Bd hml0 hP hK
  obtain ⟨rfl, hZ, hh⟩ := hP
  have hx := Bd.exec
  have hby := Bd.bytes
  have hml : c.maxLocals = 12 := hml0
  have hown : s.vm.findClass "com/example/dataflow_to_dispatch/dataflowtodispatch/model/document/XmlElementAppendPinLaw" = some m.cls := findClass_of_methodNamed Bd.named
  have hnm := (name_of_methodNamed Bd.named Bd.method).1
  have X0 : Stand p l e room_1 s m #[(.int p1), (.int p2)] below meth c s₁ [] 0 0 := Stand.of_body Bd
  have e0 : s₁.heap = h0 := by rw [← hh, Bd.state]; rfl
  have N0 := Fr.nil n0
  refine Go.done (Go.step (fun t k => castTop (ef_0 m p1 p2) k) ?_)
  have KK0 : Keep h0 h0 [] := Keep.refl _ _
  show Go p e below _ (s₁.setTop (mkF m 0 #[.val (.int p1), .val (.int p2), .unset, .unset, .unset, .unset, .unset, .unset, .unset, .unset, .unset, .unset] []))
  refine Go.step (fun t k => XS.iloadN X0.here hx rfl (hb hby at_0) rfl k) ?_
  show Go p e below _ (s₁.setTop (mkF m 1 #[.val (.int p1), .val (.int p2), .unset, .unset, .unset, .unset, .unset, .unset, .unset, .unset, .unset, .unset] [(.int p1)]))
  refine Go.step (fun t k => XS.iconst X0.here hx rfl (hb hby at_1)  k) ?_
  show Go p e below _ (s₁.setTop (mkF m 2 #[.val (.int p1), .val (.int p2), .unset, .unset, .unset, .unset, .unset, .unset, .unset, .unset, .unset, .unset] [(.int (3 : Int32)), (.int p1)]))
  refine Go.step (fun t k => XS.iand X0.here hx rfl (hb hby at_2) rfl k) ?_
  show Go p e below _ (s₁.setTop (mkF m 3 #[.val (.int p1), .val (.int p2), .unset, .unset, .unset, .unset, .unset, .unset, .unset, .unset, .unset, .unset] [(.int (p1 &&& (3 : Int32)))]))
  obtain ⟨v3, hv3⟩ : ∃ z : Int32, z = (p1 &&& (3 : Int32)) := ⟨_, rfl⟩
  rw [← hv3]
  show Go p e below _ (s₁.setTop (mkF m 3 #[.val (.int p1), .val (.int p2), .unset, .unset, .unset, .unset, .unset, .unset, .unset, .unset, .unset, .unset] [(.int v3)]))
  refine Go.step (fun t k => XS.istoreN X0.here hx rfl (hb hby at_3) rfl (l' := #[.val (.int p1), .val (.int p2), .val (.int v3), .unset, .unset, .unset, .unset, .unset, .unset, .unset, .unset, .unset]) rfl k) ?_
  show Go p e below _ (s₁.setTop (mkF m 4 #[.val (.int p1), .val (.int p2), .val (.int v3), .unset, .unset, .unset, .unset, .unset, .unset, .unset, .unset, .unset] []))
  refine Go.step (fun t k => XS.bipush X0.here hx rfl (hb hby at_4)  k) ?_
  show Go p e below _ (s₁.setTop (mkF m 6 #[.val (.int p1), .val (.int p2), .val (.int v3), .unset, .unset, .unset, .unset, .unset, .unset, .unset, .unset, .unset] [(.int (97 : Int32))]))
  refine Go.step (fun t k => XS.iloadN X0.here hx rfl (hb hby at_6) rfl k) ?_
  show Go p e below _ (s₁.setTop (mkF m 7 #[.val (.int p1), .val (.int p2), .val (.int v3), .unset, .unset, .unset, .unset, .unset, .unset, .unset, .unset, .unset] [(.int p2), (.int (97 : Int32))]))
  refine Go.step (fun t k => XS.iconst X0.here hx rfl (hb hby at_7)  k) ?_
  show Go p e below _ (s₁.setTop (mkF m 8 #[.val (.int p1), .val (.int p2), .val (.int v3), .unset, .unset, .unset, .unset, .unset, .unset, .unset, .unset, .unset] [(.int (1 : Int32)), (.int p2), (.int (97 : Int32))]))
  refine Go.step (fun t k => XS.iand X0.here hx rfl (hb hby at_8) rfl k) ?_
  show Go p e below _ (s₁.setTop (mkF m 9 #[.val (.int p1), .val (.int p2), .val (.int v3), .unset, .unset, .unset, .unset, .unset, .unset, .unset, .unset, .unset] [(.int (p2 &&& (1 : Int32))), (.int (97 : Int32))]))
  refine Go.step (fun t k => XS.iadd X0.here hx rfl (hb hby at_9) rfl k) ?_
  show Go p e below _ (s₁.setTop (mkF m 10 #[.val (.int p1), .val (.int p2), .val (.int v3), .unset, .unset, .unset, .unset, .unset, .unset, .unset, .unset, .unset] [(.int ((97 : Int32) + (p2 &&& (1 : Int32))))]))
  refine Go.step (fun t k => XS.i2c X0.here hx rfl (hb hby at_10) rfl k) ?_
  show Go p e below _ (s₁.setTop (mkF m 11 #[.val (.int p1), .val (.int p2), .val (.int v3), .unset, .unset, .unset, .unset, .unset, .unset, .unset, .unset, .unset] [(.int (((97 : Int32) + (p2 &&& (1 : Int32))).toUInt32.toUInt16.toUInt32.toInt32))]))
  obtain ⟨v4, hv4⟩ : ∃ z : Int32, z = (((97 : Int32) + (p2 &&& (1 : Int32))).toUInt32.toUInt16.toUInt32.toInt32) := ⟨_, rfl⟩
  rw [← hv4]
  show Go p e below _ (s₁.setTop (mkF m 11 #[.val (.int p1), .val (.int p2), .val (.int v3), .unset, .unset, .unset, .unset, .unset, .unset, .unset, .unset, .unset] [(.int v4)]))
  refine Go.step (fun t k => XS.istoreN X0.here hx rfl (hb hby at_11) rfl (l' := #[.val (.int p1), .val (.int p2), .val (.int v3), .val (.int v4), .unset, .unset, .unset, .unset, .unset, .unset, .unset, .unset]) rfl k) ?_
  show Go p e below _ (s₁.setTop (mkF m 12 #[.val (.int p1), .val (.int p2), .val (.int v3), .val (.int v4), .unset, .unset, .unset, .unset, .unset, .unset, .unset, .unset] []))
  refine Go.step (fun t k => XS.bipush X0.here hx rfl (hb hby at_12)  k) ?_
  show Go p e below _ (s₁.setTop (mkF m 14 #[.val (.int p1), .val (.int p2), .val (.int v3), .val (.int v4), .unset, .unset, .unset, .unset, .unset, .unset, .unset, .unset] [(.int (97 : Int32))]))
  refine Go.step (fun t k => XS.iloadN X0.here hx rfl (hb hby at_14) rfl k) ?_
  show Go p e below _ (s₁.setTop (mkF m 15 #[.val (.int p1), .val (.int p2), .val (.int v3), .val (.int v4), .unset, .unset, .unset, .unset, .unset, .unset, .unset, .unset] [(.int p2), (.int (97 : Int32))]))
  refine Go.step (fun t k => XS.iconst X0.here hx rfl (hb hby at_15)  k) ?_
  show Go p e below _ (s₁.setTop (mkF m 16 #[.val (.int p1), .val (.int p2), .val (.int v3), .val (.int v4), .unset, .unset, .unset, .unset, .unset, .unset, .unset, .unset] [(.int (1 : Int32)), (.int p2), (.int (97 : Int32))]))
  refine Go.step (fun t k => XS.iushr X0.here hx rfl (hb hby at_16) rfl k) ?_
  show Go p e below _ (s₁.setTop (mkF m 17 #[.val (.int p1), .val (.int p2), .val (.int v3), .val (.int v4), .unset, .unset, .unset, .unset, .unset, .unset, .unset, .unset] [(.int ((p2.toUInt32 >>> ((1 : Int32) &&& 31).toUInt32).toInt32)), (.int (97 : Int32))]))
  refine Go.step (fun t k => XS.iconst X0.here hx rfl (hb hby at_17)  k) ?_
  show Go p e below _ (s₁.setTop (mkF m 18 #[.val (.int p1), .val (.int p2), .val (.int v3), .val (.int v4), .unset, .unset, .unset, .unset, .unset, .unset, .unset, .unset] [(.int (1 : Int32)), (.int ((p2.toUInt32 >>> ((1 : Int32) &&& 31).toUInt32).toInt32)), (.int (97 : Int32))]))
  refine Go.step (fun t k => XS.iand X0.here hx rfl (hb hby at_18) rfl k) ?_
  show Go p e below _ (s₁.setTop (mkF m 19 #[.val (.int p1), .val (.int p2), .val (.int v3), .val (.int v4), .unset, .unset, .unset, .unset, .unset, .unset, .unset, .unset] [(.int (((p2.toUInt32 >>> ((1 : Int32) &&& 31).toUInt32).toInt32) &&& (1 : Int32))), (.int (97 : Int32))]))
  refine Go.step (fun t k => XS.iadd X0.here hx rfl (hb hby at_19) rfl k) ?_
  show Go p e below _ (s₁.setTop (mkF m 20 #[.val (.int p1), .val (.int p2), .val (.int v3), .val (.int v4), .unset, .unset, .unset, .unset, .unset, .unset, .unset, .unset] [(.int ((97 : Int32) + (((p2.toUInt32 >>> ((1 : Int32) &&& 31).toUInt32).toInt32) &&& (1 : Int32))))]))
  refine Go.step (fun t k => XS.i2c X0.here hx rfl (hb hby at_20) rfl k) ?_
  show Go p e below _ (s₁.setTop (mkF m 21 #[.val (.int p1), .val (.int p2), .val (.int v3), .val (.int v4), .unset, .unset, .unset, .unset, .unset, .unset, .unset, .unset] [(.int (((97 : Int32) + (((p2.toUInt32 >>> ((1 : Int32) &&& 31).toUInt32).toInt32) &&& (1 : Int32))).toUInt32.toUInt16.toUInt32.toInt32))]))
  obtain ⟨v5, hv5⟩ : ∃ z : Int32, z = (((97 : Int32) + (((p2.toUInt32 >>> ((1 : Int32) &&& 31).toUInt32).toInt32) &&& (1 : Int32))).toUInt32.toUInt16.toUInt32.toInt32) := ⟨_, rfl⟩
  rw [← hv5]
  show Go p e below _ (s₁.setTop (mkF m 21 #[.val (.int p1), .val (.int p2), .val (.int v3), .val (.int v4), .unset, .unset, .unset, .unset, .unset, .unset, .unset, .unset] [(.int v5)]))
  refine Go.step (fun t k => XS.istore X0.here hx rfl (hb hby at_21) rfl (l' := #[.val (.int p1), .val (.int p2), .val (.int v3), .val (.int v4), .val (.int v5), .unset, .unset, .unset, .unset, .unset, .unset, .unset]) rfl k) ?_
  show Go p e below _ (s₁.setTop (mkF m 23 #[.val (.int p1), .val (.int p2), .val (.int v3), .val (.int v4), .val (.int v5), .unset, .unset, .unset, .unset, .unset, .unset, .unset] []))
  refine Go.step (fun t k => XS.bipush X0.here hx rfl (hb hby at_23)  k) ?_
  show Go p e below _ (s₁.setTop (mkF m 25 #[.val (.int p1), .val (.int p2), .val (.int v3), .val (.int v4), .val (.int v5), .unset, .unset, .unset, .unset, .unset, .unset, .unset] [(.int (97 : Int32))]))
  refine Go.step (fun t k => XS.iloadN X0.here hx rfl (hb hby at_25) rfl k) ?_
  show Go p e below _ (s₁.setTop (mkF m 26 #[.val (.int p1), .val (.int p2), .val (.int v3), .val (.int v4), .val (.int v5), .unset, .unset, .unset, .unset, .unset, .unset, .unset] [(.int p2), (.int (97 : Int32))]))
  refine Go.step (fun t k => XS.iconst X0.here hx rfl (hb hby at_26)  k) ?_
  show Go p e below _ (s₁.setTop (mkF m 27 #[.val (.int p1), .val (.int p2), .val (.int v3), .val (.int v4), .val (.int v5), .unset, .unset, .unset, .unset, .unset, .unset, .unset] [(.int (2 : Int32)), (.int p2), (.int (97 : Int32))]))
  refine Go.step (fun t k => XS.iushr X0.here hx rfl (hb hby at_27) rfl k) ?_
  show Go p e below _ (s₁.setTop (mkF m 28 #[.val (.int p1), .val (.int p2), .val (.int v3), .val (.int v4), .val (.int v5), .unset, .unset, .unset, .unset, .unset, .unset, .unset] [(.int ((p2.toUInt32 >>> ((2 : Int32) &&& 31).toUInt32).toInt32)), (.int (97 : Int32))]))
  refine Go.step (fun t k => XS.iconst X0.here hx rfl (hb hby at_28)  k) ?_
  show Go p e below _ (s₁.setTop (mkF m 29 #[.val (.int p1), .val (.int p2), .val (.int v3), .val (.int v4), .val (.int v5), .unset, .unset, .unset, .unset, .unset, .unset, .unset] [(.int (1 : Int32)), (.int ((p2.toUInt32 >>> ((2 : Int32) &&& 31).toUInt32).toInt32)), (.int (97 : Int32))]))
  refine Go.step (fun t k => XS.iand X0.here hx rfl (hb hby at_29) rfl k) ?_
  show Go p e below _ (s₁.setTop (mkF m 30 #[.val (.int p1), .val (.int p2), .val (.int v3), .val (.int v4), .val (.int v5), .unset, .unset, .unset, .unset, .unset, .unset, .unset] [(.int (((p2.toUInt32 >>> ((2 : Int32) &&& 31).toUInt32).toInt32) &&& (1 : Int32))), (.int (97 : Int32))]))
  refine Go.step (fun t k => XS.iadd X0.here hx rfl (hb hby at_30) rfl k) ?_
  show Go p e below _ (s₁.setTop (mkF m 31 #[.val (.int p1), .val (.int p2), .val (.int v3), .val (.int v4), .val (.int v5), .unset, .unset, .unset, .unset, .unset, .unset, .unset] [(.int ((97 : Int32) + (((p2.toUInt32 >>> ((2 : Int32) &&& 31).toUInt32).toInt32) &&& (1 : Int32))))]))
  refine Go.step (fun t k => XS.i2c X0.here hx rfl (hb hby at_31) rfl k) ?_
  show Go p e below _ (s₁.setTop (mkF m 32 #[.val (.int p1), .val (.int p2), .val (.int v3), .val (.int v4), .val (.int v5), .unset, .unset, .unset, .unset, .unset, .unset, .unset] [(.int (((97 : Int32) + (((p2.toUInt32 >>> ((2 : Int32) &&& 31).toUInt32).toInt32) &&& (1 : Int32))).toUInt32.toUInt16.toUInt32.toInt32))]))
  obtain ⟨v6, hv6⟩ : ∃ z : Int32, z = (((97 : Int32) + (((p2.toUInt32 >>> ((2 : Int32) &&& 31).toUInt32).toInt32) &&& (1 : Int32))).toUInt32.toUInt16.toUInt32.toInt32) := ⟨_, rfl⟩
  rw [← hv6]
  show Go p e below _ (s₁.setTop (mkF m 32 #[.val (.int p1), .val (.int p2), .val (.int v3), .val (.int v4), .val (.int v5), .unset, .unset, .unset, .unset, .unset, .unset, .unset] [(.int v6)]))
  refine Go.step (fun t k => XS.istore X0.here hx rfl (hb hby at_32) rfl (l' := #[.val (.int p1), .val (.int p2), .val (.int v3), .val (.int v4), .val (.int v5), .val (.int v6), .unset, .unset, .unset, .unset, .unset, .unset]) rfl k) ?_
  show Go p e below _ (s₁.setTop (mkF m 34 #[.val (.int p1), .val (.int p2), .val (.int v3), .val (.int v4), .val (.int v5), .val (.int v6), .unset, .unset, .unset, .unset, .unset, .unset] []))
  obtain ⟨T7, h7, X7, e7, E7, A7, D7, -, st7⟩ := newO X0 hx hZ hown (hw _ (List.mem_of_getElem? (i := 0) rfl)) (hw _ (List.mem_of_getElem? (i := 1) rfl)) (hw _ (List.mem_of_getElem? (i := 2) rfl)) e0 (g := (mkF m 34 #[.val (.int p1), .val (.int p2), .val (.int v3), .val (.int v4), .val (.int v5), .val (.int v6), .unset, .unset, .unset, .unset, .unset, .unset] [])) rfl (hb hby at_34) (by decide) (by decide)
  obtain ⟨b7, g7⟩ : ∃ z, z = h0.size := ⟨_, rfl⟩
  rw [← g7] at A7 D7 st7
  have g_b7 : n0 ≤ b7 := Nat.le_trans Z0 (Nat.le_of_eq g7.symm)
  have sz_b7 : h0.size ≤ b7 := Nat.le_trans KK0.1 (Nat.le_of_eq g7.symm)
  refine Go.step st7 ?_
  have O7 := hO.ext E7
  have Z7 := Nat.le_trans Z0 E7.1
  have KK7 : Keep h0 h7 [] := KK0.ext E7
  clear hO Z0 KK0 E7
  have F_attributes_b7 : Fld Z h7 b7 "com/example/dataflow_to_dispatch/dataflowtodispatch/model/document/XmlElement" "attributes" "Ljava/util/List;" .null := D7 (Or.inr (hw _ (List.mem_of_getElem? (i := 58) rfl))) (ty := (.object "java/util/List")) (by decide)
  have F_texts_b7 : Fld Z h7 b7 "com/example/dataflow_to_dispatch/dataflowtodispatch/model/document/XmlElement" "texts" "Ljava/util/List;" .null := D7 (Or.inr (hw _ (List.mem_of_getElem? (i := 60) rfl))) (ty := (.object "java/util/List")) (by decide)
  have F_name_b7 : Fld Z h7 b7 "com/example/dataflow_to_dispatch/dataflowtodispatch/model/document/XmlElement" "name" "Ljava/lang/String;" .null := D7 (Or.inr (hw _ (List.mem_of_getElem? (i := 62) rfl))) (ty := (.object "java/lang/String")) (by decide)
  have F_firstChild_b7 : Fld Z h7 b7 "com/example/dataflow_to_dispatch/dataflowtodispatch/model/document/XmlElement" "firstChild" "Lcom/example/dataflow_to_dispatch/dataflowtodispatch/model/document/XmlElement;" .null := D7 (Or.inl (hw _ (List.mem_of_getElem? (i := 69) rfl))) (ty := (.object "com/example/dataflow_to_dispatch/dataflowtodispatch/model/document/XmlElement")) (by decide)
  have F_lastChild_b7 : Fld Z h7 b7 "com/example/dataflow_to_dispatch/dataflowtodispatch/model/document/XmlElement" "lastChild" "Lcom/example/dataflow_to_dispatch/dataflowtodispatch/model/document/XmlElement;" .null := D7 (Or.inl (hw _ (List.mem_of_getElem? (i := 87) rfl))) (ty := (.object "com/example/dataflow_to_dispatch/dataflowtodispatch/model/document/XmlElement")) (by decide)
  have F_parent_b7 : Fld Z h7 b7 "com/example/dataflow_to_dispatch/dataflowtodispatch/model/document/XmlElement" "parent" "Lcom/example/dataflow_to_dispatch/dataflowtodispatch/model/document/XmlElement;" .null := D7 (Or.inl (hw _ (List.mem_of_getElem? (i := 93) rfl))) (ty := (.object "com/example/dataflow_to_dispatch/dataflowtodispatch/model/document/XmlElement")) (by decide)
  have F_previous_b7 : Fld Z h7 b7 "com/example/dataflow_to_dispatch/dataflowtodispatch/model/document/XmlElement" "previous" "Lcom/example/dataflow_to_dispatch/dataflowtodispatch/model/document/XmlElement;" .null := D7 (Or.inl (hw _ (List.mem_of_getElem? (i := 95) rfl))) (ty := (.object "com/example/dataflow_to_dispatch/dataflowtodispatch/model/document/XmlElement")) (by decide)
  have F_next_b7 : Fld Z h7 b7 "com/example/dataflow_to_dispatch/dataflowtodispatch/model/document/XmlElement" "next" "Lcom/example/dataflow_to_dispatch/dataflowtodispatch/model/document/XmlElement;" .null := D7 (Or.inl (hw _ (List.mem_of_getElem? (i := 97) rfl))) (ty := (.object "com/example/dataflow_to_dispatch/dataflowtodispatch/model/document/XmlElement")) (by decide)
  show Go p e below _ (T7.setTop (mkF m 37 #[.val (.int p1), .val (.int p2), .val (.int v3), .val (.int v4), .val (.int v5), .val (.int v6), .unset, .unset, .unset, .unset, .unset, .unset] [(.ref b7)]))
  refine Go.step (fun t k => XS.dup X7.here hx rfl (hb hby at_37) rfl rfl k) ?_
  show Go p e below _ (T7.setTop (mkF m 38 #[.val (.int p1), .val (.int p2), .val (.int v3), .val (.int v4), .val (.int v5), .val (.int v6), .unset, .unset, .unset, .unset, .unset, .unset] [(.ref b7), (.ref b7)]))
  refine Go.step (fun t k => XS.iloadN X7.here hx rfl (hb hby at_38) rfl k) ?_
  show Go p e below _ (T7.setTop (mkF m 39 #[.val (.int p1), .val (.int p2), .val (.int v3), .val (.int v4), .val (.int v5), .val (.int v6), .unset, .unset, .unset, .unset, .unset, .unset] [(.int p2), (.ref b7), (.ref b7)]))
  refine Go.step (fun t k => XS.iconst X7.here hx rfl (hb hby at_39)  k) ?_
  show Go p e below _ (T7.setTop (mkF m 40 #[.val (.int p1), .val (.int p2), .val (.int v3), .val (.int v4), .val (.int v5), .val (.int v6), .unset, .unset, .unset, .unset, .unset, .unset] [(.int (3 : Int32)), (.int p2), (.ref b7), (.ref b7)]))
  refine Go.step (fun t k => XS.iushr X7.here hx rfl (hb hby at_40) rfl k) ?_
  show Go p e below _ (T7.setTop (mkF m 41 #[.val (.int p1), .val (.int p2), .val (.int v3), .val (.int v4), .val (.int v5), .val (.int v6), .unset, .unset, .unset, .unset, .unset, .unset] [(.int ((p2.toUInt32 >>> ((3 : Int32) &&& 31).toUInt32).toInt32)), (.ref b7), (.ref b7)]))
  refine Go.step (fun t k => XS.sipush X7.here hx rfl (hb hby at_41)  k) ?_
  show Go p e below _ (T7.setTop (mkF m 44 #[.val (.int p1), .val (.int p2), .val (.int v3), .val (.int v4), .val (.int v5), .val (.int v6), .unset, .unset, .unset, .unset, .unset, .unset] [(.int (255 : Int32)), (.int ((p2.toUInt32 >>> ((3 : Int32) &&& 31).toUInt32).toInt32)), (.ref b7), (.ref b7)]))
  refine Go.step (fun t k => XS.iand X7.here hx rfl (hb hby at_44) rfl k) ?_
  show Go p e below _ (T7.setTop (mkF m 45 #[.val (.int p1), .val (.int p2), .val (.int v3), .val (.int v4), .val (.int v5), .val (.int v6), .unset, .unset, .unset, .unset, .unset, .unset] [(.int (((p2.toUInt32 >>> ((3 : Int32) &&& 31).toUInt32).toInt32) &&& (255 : Int32))), (.ref b7), (.ref b7)]))
  refine Go.step (fun t k => XS.i2c X7.here hx rfl (hb hby at_45) rfl k) ?_
  show Go p e below _ (T7.setTop (mkF m 46 #[.val (.int p1), .val (.int p2), .val (.int v3), .val (.int v4), .val (.int v5), .val (.int v6), .unset, .unset, .unset, .unset, .unset, .unset] [(.int ((((p2.toUInt32 >>> ((3 : Int32) &&& 31).toUInt32).toInt32) &&& (255 : Int32)).toUInt32.toUInt16.toUInt32.toInt32)), (.ref b7), (.ref b7)]))
  obtain ⟨_, _, ⟨T8, L8, k8, n8⟩, -, X8, ⟨Lc8, hQ8, l8, y8, z8⟩, st8⟩ := Jvm.LawKit.callS X7 hx (y := (⟨"java/lang/String", "valueOf", "(C)Ljava/lang/String;"⟩ : MethodName)) hown (mvT hZ (hw _ (List.mem_of_getElem? (i := 3) rfl))) (mvT hZ (hw _ (List.mem_of_getElem? (i := 4) rfl))) (mvT hZ (hw _ (List.mem_of_getElem? (i := 5) rfl))) (mvT hZ (hw _ (List.mem_of_getElem? (i := 6) rfl))) (by decide) (backOf (W := 2) (rm1 l Z a0 hw [] ((((p2.toUInt32 >>> ((3 : Int32) &&& 31).toUInt32).toInt32) &&& (255 : Int32)).toUInt32.toUInt16.toUInt32.toInt32) wC h7 n0 Z7 hC S_COMPACT_STRINGS O7 (can_enc (ch_mk _) : ¬ ((f2 ((((p2.toUInt32 >>> ((3 : Int32) &&& 31).toUInt32).toInt32) &&& (255 : Int32)).toUInt32.toUInt16.toUInt32.toInt32)) = (0 : Int32)))) hZ (hw _ (List.mem_of_getElem? (i := 6) rfl)) (hw _ (List.mem_of_getElem? (i := 5) rfl)) (by decide) (by decide)) (g := (mkF m 46 #[.val (.int p1), .val (.int p2), .val (.int v3), .val (.int v4), .val (.int v5), .val (.int v6), .unset, .unset, .unset, .unset, .unset, .unset] [(.int ((((p2.toUInt32 >>> ((3 : Int32) &&& 31).toUInt32).toInt32) &&& (255 : Int32)).toUInt32.toUInt16.toUInt32.toInt32)), (.ref b7), (.ref b7)])) rfl (by rw [hml]; rfl) (argsL := [(.int ((((p2.toUInt32 >>> ((3 : Int32) &&& 31).toUInt32).toInt32) &&& (255 : Int32)).toUInt32.toUInt16.toUInt32.toInt32))]) (rest := [(.ref b7), (.ref b7)]) (lenOf pd_13 rfl) rfl (by show 2 * 0 + _ ≤ _; exact Nat.le_of_eq rfl) (hb hby at_46) (fun _ _ => ⟨rfl, e7, (by decide : 1 + 2 ≤ _), (by decide : 8 + 5 ≤ _)⟩)
  dsimp only [Pt.U, Pt.locs, Pt.cells, Pt.slots] at X8 l8 y8 z8 st8 hQ8
  subst l8 y8 z8
  obtain ⟨b8_0, b8_1, rfl, N8q, K8, sz8_0, sz8_1, Q8_0, Q8_1, Q8_2, Q8_3⟩ := hQ8
  have N8 := Fr.app N0 N8q
  have g_b8_0 : n0 ≤ b8_0 := Nat.le_trans Z7 sz8_0
  have sz_b8_0 : h0.size ≤ b8_0 := Nat.le_trans KK7.1 sz8_0
  have ne_b7_b8_0 : b7 ≠ b8_0 := Nat.ne_of_lt (Nat.lt_of_lt_of_le A7.lt sz8_0)
  have g_b8_1 : n0 ≤ b8_1 := Nat.le_trans Z7 sz8_1
  have sz_b8_1 : h0.size ≤ b8_1 := Nat.le_trans KK7.1 sz8_1
  have ne_b7_b8_1 : b7 ≠ b8_1 := Nat.ne_of_lt (Nat.lt_of_lt_of_le A7.lt sz8_1)
  have E_b7_8 := A7.keep K8
  have F_attributes_b7_8 := F_attributes_b7.keep K8 nin0
  have F_texts_b7_8 := F_texts_b7.keep K8 nin0
  have F_name_b7_8 := F_name_b7.keep K8 nin0
  have F_firstChild_b7_8 := F_firstChild_b7.keep K8 nin0
  have F_lastChild_b7_8 := F_lastChild_b7.keep K8 nin0
  have F_parent_b7_8 := F_parent_b7.keep K8 nin0
  have F_previous_b7_8 := F_previous_b7.keep K8 nin0
  have F_next_b7_8 := F_next_b7.keep K8 nin0
  have O8 := O7.keep K8 all0
  have Z8 := Nat.le_trans Z7 K8.1
  have KK8 : Keep h0 T8.heap [] := KK7.trans K8 all0
  clear A7 F_attributes_b7 F_texts_b7 F_name_b7 F_firstChild_b7 F_lastChild_b7 F_parent_b7 F_previous_b7 F_next_b7 O7 Z7 KK7 K8
  refine Go.step st8 ?_
  show Go p e below _ (T8.setTop (mkF m 49 #[.val (.int p1), .val (.int p2), .val (.int v3), .val (.int v4), .val (.int v5), .val (.int v6), .unset, .unset, .unset, .unset, .unset, .unset] [(.ref b8_0), (.ref b7), (.ref b7)]))
  obtain ⟨_, _, ⟨T9, L9, k9, n9⟩, -, X9, ⟨Lc9, hQ9, l9, y9, z9⟩, st9⟩ := X8.specialBack hx (y := (⟨"com/example/dataflow_to_dispatch/dataflowtodispatch/model/document/XmlElement", "<init>", "(Ljava/lang/String;)V"⟩ : MethodName)) rfl hown (mvT hZ (hw _ (List.mem_of_getElem? (i := 29) rfl))) (mvT hZ (hw _ (List.mem_of_getElem? (i := 30) rfl))) (mvT hZ (hw _ (List.mem_of_getElem? (i := 31) rfl))) (by decide) (backOf (W := 1) (rm6 l Z a0 hw [] b7 b8_0 .null .null .null .null .null .null .null .null oD T8.heap n0 Z8 F_parent_b7_8 F_previous_b7_8 F_next_b7_8 F_firstChild_b7_8 F_lastChild_b7_8 O8 E_b7_8 F_attributes_b7_8 F_texts_b7_8 F_name_b7_8 S_DEFAULTCAPACITY_EMPTY_ELEMENTDATA A_DEFAULTCAPACITY_EMPTY_ELEMENTDATA g_b7) hZ (hw _ (List.mem_of_getElem? (i := 31) rfl)) (hw _ (List.mem_of_getElem? (i := 2) rfl)) (by decide) (by decide)) (g := (mkF m 49 #[.val (.int p1), .val (.int p2), .val (.int v3), .val (.int v4), .val (.int v5), .val (.int v6), .unset, .unset, .unset, .unset, .unset, .unset] [(.ref b8_0), (.ref b7), (.ref b7)])) rfl (by rw [hml]; rfl) (Steps.refl _) (a := b7) (argsL := [(.ref b8_0)]) (rest := [(.ref b7)]) (lenOf pd_14 rfl) rfl (by show 2 * 0 + _ ≤ _; exact Nat.le_of_eq rfl) (hb hby at_49) (fun _ _ => ⟨rfl, rfl, (by decide : 3 + 2 ≤ _), (by decide : 13 + 6 ≤ _)⟩)
  dsimp only [Pt.U, Pt.locs, Pt.cells, Pt.slots] at X9 l9 y9 z9 st9 hQ9
  subst l9 y9 z9
  obtain ⟨rfl, N9q, K9, Q9_0, Q9_1, Q9_2, Q9_3, Q9_4, Q9_5, Q9_6⟩ := hQ9
  have N9 := Fr.app N8 N9q
  have E_b7_9 := E_b7_8.keep K9
  have E_b8_0_9 := Q8_0.keep K9
  have A_b8_1_9 := Q8_1.keep K9 (ninS (Ne.symm ne_b7_b8_1) nin0)
  have F_coder_b8_0_9 := Q8_2.keep K9 (ninS (Ne.symm ne_b7_b8_0) nin0)
  have F_value_b8_0_9 := Q8_3.keep K9 (ninS (Ne.symm ne_b7_b8_0) nin0)
  have O9 := O8.keep K9 (allS g_b7 all0)
  have Z9 := Nat.le_trans Z8 K9.1
  have KK9 : Keep h0 T9.heap [] := KK8.trans K9 (allS (Or.inr sz_b7) all0)
  clear E_b7_8 Q8_0 Q8_1 Q8_2 Q8_3 O8 Z8 KK8 K9
  refine Go.trans st9 ?_
  show Go p e below _ (T9.setTop (mkF m 52 #[.val (.int p1), .val (.int p2), .val (.int v3), .val (.int v4), .val (.int v5), .val (.int v6), .unset, .unset, .unset, .unset, .unset, .unset] [(.ref b7)]))
  refine Go.step (fun t k => XS.astore X9.here hx rfl (hb hby at_52) rfl rfl (l' := #[.val (.int p1), .val (.int p2), .val (.int v3), .val (.int v4), .val (.int v5), .val (.int v6), .val (.ref b7), .unset, .unset, .unset, .unset, .unset]) rfl k) ?_
  show Go p e below _ (T9.setTop (mkF m 54 #[.val (.int p1), .val (.int p2), .val (.int v3), .val (.int v4), .val (.int v5), .val (.int v6), .val (.ref b7), .unset, .unset, .unset, .unset, .unset] []))
  obtain ⟨T10, h10, X10, e10, E10, A10, D10, -, st10⟩ := newO X9 hx hZ hown (hw _ (List.mem_of_getElem? (i := 0) rfl)) (hw _ (List.mem_of_getElem? (i := 1) rfl)) (hw _ (List.mem_of_getElem? (i := 2) rfl)) rfl (g := (mkF m 54 #[.val (.int p1), .val (.int p2), .val (.int v3), .val (.int v4), .val (.int v5), .val (.int v6), .val (.ref b7), .unset, .unset, .unset, .unset, .unset] [])) rfl (hb hby at_54) (by decide) (by decide)
  obtain ⟨b10, g10⟩ : ∃ z, z = T9.heap.size := ⟨_, rfl⟩
  rw [← g10] at A10 D10 st10
  have g_b10 : n0 ≤ b10 := Nat.le_trans Z9 (Nat.le_of_eq g10.symm)
  have sz_b10 : h0.size ≤ b10 := Nat.le_trans KK9.1 (Nat.le_of_eq g10.symm)
  have ne_b7_b10 : b7 ≠ b10 := Nat.ne_of_lt (Nat.lt_of_lt_of_le Q9_5.lt (Nat.le_of_eq g10.symm))
  have ne_b8_0_b10 : b8_0 ≠ b10 := Nat.ne_of_lt (Nat.lt_of_lt_of_le E_b8_0_9.lt (Nat.le_of_eq g10.symm))
  have ne_b8_1_b10 : b8_1 ≠ b10 := Nat.ne_of_lt (Nat.lt_of_lt_of_le A_b8_1_9.lt (Nat.le_of_eq g10.symm))
  refine Go.step st10 ?_
  have E_b7_10 := Q9_5.ext E10
  have E_b8_0_10 := E_b8_0_9.ext E10
  have A_b8_1_10 := A_b8_1_9.ext E10
  have F_coder_b8_0_10 := F_coder_b8_0_9.ext E10
  have F_value_b8_0_10 := F_value_b8_0_9.ext E10
  have F_parent_b7_10 := Q9_0.ext E10
  have F_previous_b7_10 := Q9_1.ext E10
  have F_next_b7_10 := Q9_2.ext E10
  have F_firstChild_b7_10 := Q9_3.ext E10
  have F_lastChild_b7_10 := Q9_4.ext E10
  have F_name_b7_10 := Q9_6.ext E10
  have O10 := O9.ext E10
  have Z10 := Nat.le_trans Z9 E10.1
  have KK10 : Keep h0 h10 [] := KK9.ext E10
  clear Q9_5 E_b8_0_9 A_b8_1_9 F_coder_b8_0_9 F_value_b8_0_9 Q9_0 Q9_1 Q9_2 Q9_3 Q9_4 Q9_6 O9 Z9 KK9 E10
  have F_attributes_b10 : Fld Z h10 b10 "com/example/dataflow_to_dispatch/dataflowtodispatch/model/document/XmlElement" "attributes" "Ljava/util/List;" .null := D10 (Or.inr (hw _ (List.mem_of_getElem? (i := 58) rfl))) (ty := (.object "java/util/List")) (by decide)
  have F_texts_b10 : Fld Z h10 b10 "com/example/dataflow_to_dispatch/dataflowtodispatch/model/document/XmlElement" "texts" "Ljava/util/List;" .null := D10 (Or.inr (hw _ (List.mem_of_getElem? (i := 60) rfl))) (ty := (.object "java/util/List")) (by decide)
  have F_name_b10 : Fld Z h10 b10 "com/example/dataflow_to_dispatch/dataflowtodispatch/model/document/XmlElement" "name" "Ljava/lang/String;" .null := D10 (Or.inr (hw _ (List.mem_of_getElem? (i := 62) rfl))) (ty := (.object "java/lang/String")) (by decide)
  have F_firstChild_b10 : Fld Z h10 b10 "com/example/dataflow_to_dispatch/dataflowtodispatch/model/document/XmlElement" "firstChild" "Lcom/example/dataflow_to_dispatch/dataflowtodispatch/model/document/XmlElement;" .null := D10 (Or.inl (hw _ (List.mem_of_getElem? (i := 69) rfl))) (ty := (.object "com/example/dataflow_to_dispatch/dataflowtodispatch/model/document/XmlElement")) (by decide)
  have F_lastChild_b10 : Fld Z h10 b10 "com/example/dataflow_to_dispatch/dataflowtodispatch/model/document/XmlElement" "lastChild" "Lcom/example/dataflow_to_dispatch/dataflowtodispatch/model/document/XmlElement;" .null := D10 (Or.inl (hw _ (List.mem_of_getElem? (i := 87) rfl))) (ty := (.object "com/example/dataflow_to_dispatch/dataflowtodispatch/model/document/XmlElement")) (by decide)
  have F_parent_b10 : Fld Z h10 b10 "com/example/dataflow_to_dispatch/dataflowtodispatch/model/document/XmlElement" "parent" "Lcom/example/dataflow_to_dispatch/dataflowtodispatch/model/document/XmlElement;" .null := D10 (Or.inl (hw _ (List.mem_of_getElem? (i := 93) rfl))) (ty := (.object "com/example/dataflow_to_dispatch/dataflowtodispatch/model/document/XmlElement")) (by decide)
  have F_previous_b10 : Fld Z h10 b10 "com/example/dataflow_to_dispatch/dataflowtodispatch/model/document/XmlElement" "previous" "Lcom/example/dataflow_to_dispatch/dataflowtodispatch/model/document/XmlElement;" .null := D10 (Or.inl (hw _ (List.mem_of_getElem? (i := 95) rfl))) (ty := (.object "com/example/dataflow_to_dispatch/dataflowtodispatch/model/document/XmlElement")) (by decide)
  have F_next_b10 : Fld Z h10 b10 "com/example/dataflow_to_dispatch/dataflowtodispatch/model/document/XmlElement" "next" "Lcom/example/dataflow_to_dispatch/dataflowtodispatch/model/document/XmlElement;" .null := D10 (Or.inl (hw _ (List.mem_of_getElem? (i := 97) rfl))) (ty := (.object "com/example/dataflow_to_dispatch/dataflowtodispatch/model/document/XmlElement")) (by decide)
  show Go p e below _ (T10.setTop (mkF m 57 #[.val (.int p1), .val (.int p2), .val (.int v3), .val (.int v4), .val (.int v5), .val (.int v6), .val (.ref b7), .unset, .unset, .unset, .unset, .unset] [(.ref b10)]))
  refine Go.step (fun t k => XS.dup X10.here hx rfl (hb hby at_57) rfl rfl k) ?_
  show Go p e below _ (T10.setTop (mkF m 58 #[.val (.int p1), .val (.int p2), .val (.int v3), .val (.int v4), .val (.int v5), .val (.int v6), .val (.ref b7), .unset, .unset, .unset, .unset, .unset] [(.ref b10), (.ref b10)]))
  refine Go.step (fun t k => XS.iloadN X10.here hx rfl (hb hby at_58) rfl k) ?_
  show Go p e below _ (T10.setTop (mkF m 59 #[.val (.int p1), .val (.int p2), .val (.int v3), .val (.int v4), .val (.int v5), .val (.int v6), .val (.ref b7), .unset, .unset, .unset, .unset, .unset] [(.int v4), (.ref b10), (.ref b10)]))
  obtain ⟨_, _, ⟨T11, L11, k11, n11⟩, -, X11, ⟨Lc11, hQ11, l11, y11, z11⟩, st11⟩ := Jvm.LawKit.callS X10 hx (y := (⟨"java/lang/String", "valueOf", "(C)Ljava/lang/String;"⟩ : MethodName)) hown (mvT hZ (hw _ (List.mem_of_getElem? (i := 3) rfl))) (mvT hZ (hw _ (List.mem_of_getElem? (i := 4) rfl))) (mvT hZ (hw _ (List.mem_of_getElem? (i := 5) rfl))) (mvT hZ (hw _ (List.mem_of_getElem? (i := 6) rfl))) (by decide) (backOf (W := 2) (rm1 l Z a0 hw [] v4 wC h10 n0 Z10 hC S_COMPACT_STRINGS O10 (can_enc (by rw [hv4]; exact ch_a _) : ¬ ((f2 v4) = (0 : Int32)))) hZ (hw _ (List.mem_of_getElem? (i := 6) rfl)) (hw _ (List.mem_of_getElem? (i := 5) rfl)) (by decide) (by decide)) (g := (mkF m 59 #[.val (.int p1), .val (.int p2), .val (.int v3), .val (.int v4), .val (.int v5), .val (.int v6), .val (.ref b7), .unset, .unset, .unset, .unset, .unset] [(.int v4), (.ref b10), (.ref b10)])) rfl (by rw [hml]; rfl) (argsL := [(.int v4)]) (rest := [(.ref b10), (.ref b10)]) (lenOf pd_13 rfl) rfl (by show 2 * 0 + _ ≤ _; exact Nat.le_of_eq rfl) (hb hby at_59) (fun _ _ => ⟨rfl, e10, (by decide : 6 + 2 ≤ _), (by decide : 27 + 5 ≤ _)⟩)
  dsimp only [Pt.U, Pt.locs, Pt.cells, Pt.slots] at X11 l11 y11 z11 st11 hQ11
  subst l11 y11 z11
  obtain ⟨b11_0, b11_1, rfl, N11q, K11, sz11_0, sz11_1, Q11_0, Q11_1, Q11_2, Q11_3⟩ := hQ11
  have N11 := Fr.app N9 N11q
  have g_b11_0 : n0 ≤ b11_0 := Nat.le_trans Z10 sz11_0
  have sz_b11_0 : h0.size ≤ b11_0 := Nat.le_trans KK10.1 sz11_0
  have ne_b7_b11_0 : b7 ≠ b11_0 := Nat.ne_of_lt (Nat.lt_of_lt_of_le E_b7_10.lt sz11_0)
  have ne_b8_0_b11_0 : b8_0 ≠ b11_0 := Nat.ne_of_lt (Nat.lt_of_lt_of_le E_b8_0_10.lt sz11_0)
  have ne_b8_1_b11_0 : b8_1 ≠ b11_0 := Nat.ne_of_lt (Nat.lt_of_lt_of_le A_b8_1_10.lt sz11_0)
  have ne_b10_b11_0 : b10 ≠ b11_0 := Nat.ne_of_lt (Nat.lt_of_lt_of_le A10.lt sz11_0)
  have g_b11_1 : n0 ≤ b11_1 := Nat.le_trans Z10 sz11_1
  have sz_b11_1 : h0.size ≤ b11_1 := Nat.le_trans KK10.1 sz11_1
  have ne_b7_b11_1 : b7 ≠ b11_1 := Nat.ne_of_lt (Nat.lt_of_lt_of_le E_b7_10.lt sz11_1)
  have ne_b8_0_b11_1 : b8_0 ≠ b11_1 := Nat.ne_of_lt (Nat.lt_of_lt_of_le E_b8_0_10.lt sz11_1)
  have ne_b8_1_b11_1 : b8_1 ≠ b11_1 := Nat.ne_of_lt (Nat.lt_of_lt_of_le A_b8_1_10.lt sz11_1)
  have ne_b10_b11_1 : b10 ≠ b11_1 := Nat.ne_of_lt (Nat.lt_of_lt_of_le A10.lt sz11_1)
  have E_b7_11 := E_b7_10.keep K11
  have E_b8_0_11 := E_b8_0_10.keep K11
  have A_b8_1_11 := A_b8_1_10.keep K11 nin0
  have F_coder_b8_0_11 := F_coder_b8_0_10.keep K11 nin0
  have F_value_b8_0_11 := F_value_b8_0_10.keep K11 nin0
  have F_parent_b7_11 := F_parent_b7_10.keep K11 nin0
  have F_previous_b7_11 := F_previous_b7_10.keep K11 nin0
  have F_next_b7_11 := F_next_b7_10.keep K11 nin0
  have F_firstChild_b7_11 := F_firstChild_b7_10.keep K11 nin0
  have F_lastChild_b7_11 := F_lastChild_b7_10.keep K11 nin0
  have F_name_b7_11 := F_name_b7_10.keep K11 nin0
  have E_b10_11 := A10.keep K11
  have F_attributes_b10_11 := F_attributes_b10.keep K11 nin0
  have F_texts_b10_11 := F_texts_b10.keep K11 nin0
  have F_name_b10_11 := F_name_b10.keep K11 nin0
  have F_firstChild_b10_11 := F_firstChild_b10.keep K11 nin0
  have F_lastChild_b10_11 := F_lastChild_b10.keep K11 nin0
  have F_parent_b10_11 := F_parent_b10.keep K11 nin0
  have F_previous_b10_11 := F_previous_b10.keep K11 nin0
  have F_next_b10_11 := F_next_b10.keep K11 nin0
  have O11 := O10.keep K11 all0
  have Z11 := Nat.le_trans Z10 K11.1
  have KK11 : Keep h0 T11.heap [] := KK10.trans K11 all0
  clear E_b7_10 E_b8_0_10 A_b8_1_10 F_coder_b8_0_10 F_value_b8_0_10 F_parent_b7_10 F_previous_b7_10 F_next_b7_10 F_firstChild_b7_10 F_lastChild_b7_10 F_name_b7_10 A10 F_attributes_b10 F_texts_b10 F_name_b10 F_firstChild_b10 F_lastChild_b10 F_parent_b10 F_previous_b10 F_next_b10 O10 Z10 KK10 K11
  refine Go.step st11 ?_
  show Go p e below _ (T11.setTop (mkF m 62 #[.val (.int p1), .val (.int p2), .val (.int v3), .val (.int v4), .val (.int v5), .val (.int v6), .val (.ref b7), .unset, .unset, .unset, .unset, .unset] [(.ref b11_0), (.ref b10), (.ref b10)]))
  obtain ⟨_, _, ⟨T12, L12, k12, n12⟩, -, X12, ⟨Lc12, hQ12, l12, y12, z12⟩, st12⟩ := X11.specialBack hx (y := (⟨"com/example/dataflow_to_dispatch/dataflowtodispatch/model/document/XmlElement", "<init>", "(Ljava/lang/String;)V"⟩ : MethodName)) rfl hown (mvT hZ (hw _ (List.mem_of_getElem? (i := 29) rfl))) (mvT hZ (hw _ (List.mem_of_getElem? (i := 30) rfl))) (mvT hZ (hw _ (List.mem_of_getElem? (i := 31) rfl))) (by decide) (backOf (W := 1) (rm6 l Z a0 hw [] b10 b11_0 .null .null .null .null .null .null .null .null oD T11.heap n0 Z11 F_parent_b10_11 F_previous_b10_11 F_next_b10_11 F_firstChild_b10_11 F_lastChild_b10_11 O11 E_b10_11 F_attributes_b10_11 F_texts_b10_11 F_name_b10_11 S_DEFAULTCAPACITY_EMPTY_ELEMENTDATA A_DEFAULTCAPACITY_EMPTY_ELEMENTDATA g_b10) hZ (hw _ (List.mem_of_getElem? (i := 31) rfl)) (hw _ (List.mem_of_getElem? (i := 2) rfl)) (by decide) (by decide)) (g := (mkF m 62 #[.val (.int p1), .val (.int p2), .val (.int v3), .val (.int v4), .val (.int v5), .val (.int v6), .val (.ref b7), .unset, .unset, .unset, .unset, .unset] [(.ref b11_0), (.ref b10), (.ref b10)])) rfl (by rw [hml]; rfl) (Steps.refl _) (a := b10) (argsL := [(.ref b11_0)]) (rest := [(.ref b10)]) (lenOf pd_14 rfl) rfl (by show 2 * 0 + _ ≤ _; exact Nat.le_of_eq rfl) (hb hby at_62) (fun _ _ => ⟨rfl, rfl, (by decide : 8 + 2 ≤ _), (by decide : 32 + 6 ≤ _)⟩)
  dsimp only [Pt.U, Pt.locs, Pt.cells, Pt.slots] at X12 l12 y12 z12 st12 hQ12
  subst l12 y12 z12
  obtain ⟨rfl, N12q, K12, Q12_0, Q12_1, Q12_2, Q12_3, Q12_4, Q12_5, Q12_6⟩ := hQ12
  have N12 := Fr.app N11 N12q
  have E_b7_12 := E_b7_11.keep K12
  have E_b8_0_12 := E_b8_0_11.keep K12
  have A_b8_1_12 := A_b8_1_11.keep K12 (ninS ne_b8_1_b10 nin0)
  have F_coder_b8_0_12 := F_coder_b8_0_11.keep K12 (ninS ne_b8_0_b10 nin0)
  have F_value_b8_0_12 := F_value_b8_0_11.keep K12 (ninS ne_b8_0_b10 nin0)
  have F_parent_b7_12 := F_parent_b7_11.keep K12 (ninS ne_b7_b10 nin0)
  have F_previous_b7_12 := F_previous_b7_11.keep K12 (ninS ne_b7_b10 nin0)
  have F_next_b7_12 := F_next_b7_11.keep K12 (ninS ne_b7_b10 nin0)
  have F_firstChild_b7_12 := F_firstChild_b7_11.keep K12 (ninS ne_b7_b10 nin0)
  have F_lastChild_b7_12 := F_lastChild_b7_11.keep K12 (ninS ne_b7_b10 nin0)
  have F_name_b7_12 := F_name_b7_11.keep K12 (ninS ne_b7_b10 nin0)
  have E_b10_12 := E_b10_11.keep K12
  have E_b11_0_12 := Q11_0.keep K12
  have A_b11_1_12 := Q11_1.keep K12 (ninS (Ne.symm ne_b10_b11_1) nin0)
  have F_coder_b11_0_12 := Q11_2.keep K12 (ninS (Ne.symm ne_b10_b11_0) nin0)
  have F_value_b11_0_12 := Q11_3.keep K12 (ninS (Ne.symm ne_b10_b11_0) nin0)
  have O12 := O11.keep K12 (allS g_b10 all0)
  have Z12 := Nat.le_trans Z11 K12.1
  have KK12 : Keep h0 T12.heap [] := KK11.trans K12 (allS (Or.inr sz_b10) all0)
  clear E_b7_11 E_b8_0_11 A_b8_1_11 F_coder_b8_0_11 F_value_b8_0_11 F_parent_b7_11 F_previous_b7_11 F_next_b7_11 F_firstChild_b7_11 F_lastChild_b7_11 F_name_b7_11 E_b10_11 Q11_0 Q11_1 Q11_2 Q11_3 O11 Z11 KK11 K12
  refine Go.trans st12 ?_
  show Go p e below _ (T12.setTop (mkF m 65 #[.val (.int p1), .val (.int p2), .val (.int v3), .val (.int v4), .val (.int v5), .val (.int v6), .val (.ref b7), .unset, .unset, .unset, .unset, .unset] [(.ref b10)]))
  refine Go.step (fun t k => XS.astore X12.here hx rfl (hb hby at_65) rfl rfl (l' := #[.val (.int p1), .val (.int p2), .val (.int v3), .val (.int v4), .val (.int v5), .val (.int v6), .val (.ref b7), .val (.ref b10), .unset, .unset, .unset, .unset]) rfl k) ?_
  show Go p e below _ (T12.setTop (mkF m 67 #[.val (.int p1), .val (.int p2), .val (.int v3), .val (.int v4), .val (.int v5), .val (.int v6), .val (.ref b7), .val (.ref b10), .unset, .unset, .unset, .unset] []))
  obtain ⟨T13, h13, X13, e13, E13, A13, D13, -, st13⟩ := newO X12 hx hZ hown (hw _ (List.mem_of_getElem? (i := 0) rfl)) (hw _ (List.mem_of_getElem? (i := 1) rfl)) (hw _ (List.mem_of_getElem? (i := 2) rfl)) rfl (g := (mkF m 67 #[.val (.int p1), .val (.int p2), .val (.int v3), .val (.int v4), .val (.int v5), .val (.int v6), .val (.ref b7), .val (.ref b10), .unset, .unset, .unset, .unset] [])) rfl (hb hby at_67) (by decide) (by decide)
  obtain ⟨b13, g13⟩ : ∃ z, z = T12.heap.size := ⟨_, rfl⟩
  rw [← g13] at A13 D13 st13
  have g_b13 : n0 ≤ b13 := Nat.le_trans Z12 (Nat.le_of_eq g13.symm)
  have sz_b13 : h0.size ≤ b13 := Nat.le_trans KK12.1 (Nat.le_of_eq g13.symm)
  have ne_b7_b13 : b7 ≠ b13 := Nat.ne_of_lt (Nat.lt_of_lt_of_le E_b7_12.lt (Nat.le_of_eq g13.symm))
  have ne_b8_0_b13 : b8_0 ≠ b13 := Nat.ne_of_lt (Nat.lt_of_lt_of_le E_b8_0_12.lt (Nat.le_of_eq g13.symm))
  have ne_b8_1_b13 : b8_1 ≠ b13 := Nat.ne_of_lt (Nat.lt_of_lt_of_le A_b8_1_12.lt (Nat.le_of_eq g13.symm))
  have ne_b10_b13 : b10 ≠ b13 := Nat.ne_of_lt (Nat.lt_of_lt_of_le Q12_5.lt (Nat.le_of_eq g13.symm))
  have ne_b11_0_b13 : b11_0 ≠ b13 := Nat.ne_of_lt (Nat.lt_of_lt_of_le E_b11_0_12.lt (Nat.le_of_eq g13.symm))
  have ne_b11_1_b13 : b11_1 ≠ b13 := Nat.ne_of_lt (Nat.lt_of_lt_of_le A_b11_1_12.lt (Nat.le_of_eq g13.symm))
  refine Go.step st13 ?_
  have E_b7_13 := E_b7_12.ext E13
  have E_b8_0_13 := E_b8_0_12.ext E13
  have A_b8_1_13 := A_b8_1_12.ext E13
  have F_coder_b8_0_13 := F_coder_b8_0_12.ext E13
  have F_value_b8_0_13 := F_value_b8_0_12.ext E13
  have F_parent_b7_13 := F_parent_b7_12.ext E13
  have F_previous_b7_13 := F_previous_b7_12.ext E13
  have F_next_b7_13 := F_next_b7_12.ext E13
  have F_firstChild_b7_13 := F_firstChild_b7_12.ext E13
  have F_lastChild_b7_13 := F_lastChild_b7_12.ext E13
  have F_name_b7_13 := F_name_b7_12.ext E13
  have E_b10_13 := Q12_5.ext E13
  have E_b11_0_13 := E_b11_0_12.ext E13
  have A_b11_1_13 := A_b11_1_12.ext E13
  have F_coder_b11_0_13 := F_coder_b11_0_12.ext E13
  have F_value_b11_0_13 := F_value_b11_0_12.ext E13
  have F_parent_b10_13 := Q12_0.ext E13
  have F_previous_b10_13 := Q12_1.ext E13
  have F_next_b10_13 := Q12_2.ext E13
  have F_firstChild_b10_13 := Q12_3.ext E13
  have F_lastChild_b10_13 := Q12_4.ext E13
  have F_name_b10_13 := Q12_6.ext E13
  have O13 := O12.ext E13
  have Z13 := Nat.le_trans Z12 E13.1
  have KK13 : Keep h0 h13 [] := KK12.ext E13
  clear E_b7_12 E_b8_0_12 A_b8_1_12 F_coder_b8_0_12 F_value_b8_0_12 F_parent_b7_12 F_previous_b7_12 F_next_b7_12 F_firstChild_b7_12 F_lastChild_b7_12 F_name_b7_12 Q12_5 E_b11_0_12 A_b11_1_12 F_coder_b11_0_12 F_value_b11_0_12 Q12_0 Q12_1 Q12_2 Q12_3 Q12_4 Q12_6 O12 Z12 KK12 E13
  have F_attributes_b13 : Fld Z h13 b13 "com/example/dataflow_to_dispatch/dataflowtodispatch/model/document/XmlElement" "attributes" "Ljava/util/List;" .null := D13 (Or.inr (hw _ (List.mem_of_getElem? (i := 58) rfl))) (ty := (.object "java/util/List")) (by decide)
  have F_texts_b13 : Fld Z h13 b13 "com/example/dataflow_to_dispatch/dataflowtodispatch/model/document/XmlElement" "texts" "Ljava/util/List;" .null := D13 (Or.inr (hw _ (List.mem_of_getElem? (i := 60) rfl))) (ty := (.object "java/util/List")) (by decide)
  have F_name_b13 : Fld Z h13 b13 "com/example/dataflow_to_dispatch/dataflowtodispatch/model/document/XmlElement" "name" "Ljava/lang/String;" .null := D13 (Or.inr (hw _ (List.mem_of_getElem? (i := 62) rfl))) (ty := (.object "java/lang/String")) (by decide)
  have F_firstChild_b13 : Fld Z h13 b13 "com/example/dataflow_to_dispatch/dataflowtodispatch/model/document/XmlElement" "firstChild" "Lcom/example/dataflow_to_dispatch/dataflowtodispatch/model/document/XmlElement;" .null := D13 (Or.inl (hw _ (List.mem_of_getElem? (i := 69) rfl))) (ty := (.object "com/example/dataflow_to_dispatch/dataflowtodispatch/model/document/XmlElement")) (by decide)
  have F_lastChild_b13 : Fld Z h13 b13 "com/example/dataflow_to_dispatch/dataflowtodispatch/model/document/XmlElement" "lastChild" "Lcom/example/dataflow_to_dispatch/dataflowtodispatch/model/document/XmlElement;" .null := D13 (Or.inl (hw _ (List.mem_of_getElem? (i := 87) rfl))) (ty := (.object "com/example/dataflow_to_dispatch/dataflowtodispatch/model/document/XmlElement")) (by decide)
  have F_parent_b13 : Fld Z h13 b13 "com/example/dataflow_to_dispatch/dataflowtodispatch/model/document/XmlElement" "parent" "Lcom/example/dataflow_to_dispatch/dataflowtodispatch/model/document/XmlElement;" .null := D13 (Or.inl (hw _ (List.mem_of_getElem? (i := 93) rfl))) (ty := (.object "com/example/dataflow_to_dispatch/dataflowtodispatch/model/document/XmlElement")) (by decide)
  have F_previous_b13 : Fld Z h13 b13 "com/example/dataflow_to_dispatch/dataflowtodispatch/model/document/XmlElement" "previous" "Lcom/example/dataflow_to_dispatch/dataflowtodispatch/model/document/XmlElement;" .null := D13 (Or.inl (hw _ (List.mem_of_getElem? (i := 95) rfl))) (ty := (.object "com/example/dataflow_to_dispatch/dataflowtodispatch/model/document/XmlElement")) (by decide)
  have F_next_b13 : Fld Z h13 b13 "com/example/dataflow_to_dispatch/dataflowtodispatch/model/document/XmlElement" "next" "Lcom/example/dataflow_to_dispatch/dataflowtodispatch/model/document/XmlElement;" .null := D13 (Or.inl (hw _ (List.mem_of_getElem? (i := 97) rfl))) (ty := (.object "com/example/dataflow_to_dispatch/dataflowtodispatch/model/document/XmlElement")) (by decide)
  show Go p e below _ (T13.setTop (mkF m 70 #[.val (.int p1), .val (.int p2), .val (.int v3), .val (.int v4), .val (.int v5), .val (.int v6), .val (.ref b7), .val (.ref b10), .unset, .unset, .unset, .unset] [(.ref b13)]))
  refine Go.step (fun t k => XS.dup X13.here hx rfl (hb hby at_70) rfl rfl k) ?_
  show Go p e below _ (T13.setTop (mkF m 71 #[.val (.int p1), .val (.int p2), .val (.int v3), .val (.int v4), .val (.int v5), .val (.int v6), .val (.ref b7), .val (.ref b10), .unset, .unset, .unset, .unset] [(.ref b13), (.ref b13)]))
  refine Go.step (fun t k => XS.iload X13.here hx rfl (hb hby at_71) rfl k) ?_
  show Go p e below _ (T13.setTop (mkF m 73 #[.val (.int p1), .val (.int p2), .val (.int v3), .val (.int v4), .val (.int v5), .val (.int v6), .val (.ref b7), .val (.ref b10), .unset, .unset, .unset, .unset] [(.int v5), (.ref b13), (.ref b13)]))
  obtain ⟨_, _, ⟨T14, L14, k14, n14⟩, -, X14, ⟨Lc14, hQ14, l14, y14, z14⟩, st14⟩ := Jvm.LawKit.callS X13 hx (y := (⟨"java/lang/String", "valueOf", "(C)Ljava/lang/String;"⟩ : MethodName)) hown (mvT hZ (hw _ (List.mem_of_getElem? (i := 3) rfl))) (mvT hZ (hw _ (List.mem_of_getElem? (i := 4) rfl))) (mvT hZ (hw _ (List.mem_of_getElem? (i := 5) rfl))) (mvT hZ (hw _ (List.mem_of_getElem? (i := 6) rfl))) (by decide) (backOf (W := 2) (rm1 l Z a0 hw [] v5 wC h13 n0 Z13 hC S_COMPACT_STRINGS O13 (can_enc (by rw [hv5]; exact ch_a _) : ¬ ((f2 v5) = (0 : Int32)))) hZ (hw _ (List.mem_of_getElem? (i := 6) rfl)) (hw _ (List.mem_of_getElem? (i := 5) rfl)) (by decide) (by decide)) (g := (mkF m 73 #[.val (.int p1), .val (.int p2), .val (.int v3), .val (.int v4), .val (.int v5), .val (.int v6), .val (.ref b7), .val (.ref b10), .unset, .unset, .unset, .unset] [(.int v5), (.ref b13), (.ref b13)])) rfl (by rw [hml]; rfl) (argsL := [(.int v5)]) (rest := [(.ref b13), (.ref b13)]) (lenOf pd_13 rfl) rfl (by show 2 * 0 + _ ≤ _; exact Nat.le_of_eq rfl) (hb hby at_73) (fun _ _ => ⟨rfl, e13, (by decide : 11 + 2 ≤ _), (by decide : 46 + 5 ≤ _)⟩)
  dsimp only [Pt.U, Pt.locs, Pt.cells, Pt.slots] at X14 l14 y14 z14 st14 hQ14
  subst l14 y14 z14
  obtain ⟨b14_0, b14_1, rfl, N14q, K14, sz14_0, sz14_1, Q14_0, Q14_1, Q14_2, Q14_3⟩ := hQ14
  have N14 := Fr.app N12 N14q
  have g_b14_0 : n0 ≤ b14_0 := Nat.le_trans Z13 sz14_0
  have sz_b14_0 : h0.size ≤ b14_0 := Nat.le_trans KK13.1 sz14_0
  have ne_b7_b14_0 : b7 ≠ b14_0 := Nat.ne_of_lt (Nat.lt_of_lt_of_le E_b7_13.lt sz14_0)
  have ne_b8_0_b14_0 : b8_0 ≠ b14_0 := Nat.ne_of_lt (Nat.lt_of_lt_of_le E_b8_0_13.lt sz14_0)
  have ne_b8_1_b14_0 : b8_1 ≠ b14_0 := Nat.ne_of_lt (Nat.lt_of_lt_of_le A_b8_1_13.lt sz14_0)
  have ne_b10_b14_0 : b10 ≠ b14_0 := Nat.ne_of_lt (Nat.lt_of_lt_of_le E_b10_13.lt sz14_0)
  have ne_b11_0_b14_0 : b11_0 ≠ b14_0 := Nat.ne_of_lt (Nat.lt_of_lt_of_le E_b11_0_13.lt sz14_0)
  have ne_b11_1_b14_0 : b11_1 ≠ b14_0 := Nat.ne_of_lt (Nat.lt_of_lt_of_le A_b11_1_13.lt sz14_0)
  have ne_b13_b14_0 : b13 ≠ b14_0 := Nat.ne_of_lt (Nat.lt_of_lt_of_le A13.lt sz14_0)
  have g_b14_1 : n0 ≤ b14_1 := Nat.le_trans Z13 sz14_1
  have sz_b14_1 : h0.size ≤ b14_1 := Nat.le_trans KK13.1 sz14_1
  have ne_b7_b14_1 : b7 ≠ b14_1 := Nat.ne_of_lt (Nat.lt_of_lt_of_le E_b7_13.lt sz14_1)
  have ne_b8_0_b14_1 : b8_0 ≠ b14_1 := Nat.ne_of_lt (Nat.lt_of_lt_of_le E_b8_0_13.lt sz14_1)
  have ne_b8_1_b14_1 : b8_1 ≠ b14_1 := Nat.ne_of_lt (Nat.lt_of_lt_of_le A_b8_1_13.lt sz14_1)
  have ne_b10_b14_1 : b10 ≠ b14_1 := Nat.ne_of_lt (Nat.lt_of_lt_of_le E_b10_13.lt sz14_1)
  have ne_b11_0_b14_1 : b11_0 ≠ b14_1 := Nat.ne_of_lt (Nat.lt_of_lt_of_le E_b11_0_13.lt sz14_1)
  have ne_b11_1_b14_1 : b11_1 ≠ b14_1 := Nat.ne_of_lt (Nat.lt_of_lt_of_le A_b11_1_13.lt sz14_1)
  have ne_b13_b14_1 : b13 ≠ b14_1 := Nat.ne_of_lt (Nat.lt_of_lt_of_le A13.lt sz14_1)
  have E_b7_14 := E_b7_13.keep K14
  have E_b8_0_14 := E_b8_0_13.keep K14
  have A_b8_1_14 := A_b8_1_13.keep K14 nin0
  have F_coder_b8_0_14 := F_coder_b8_0_13.keep K14 nin0
  have F_value_b8_0_14 := F_value_b8_0_13.keep K14 nin0
  have F_parent_b7_14 := F_parent_b7_13.keep K14 nin0
  have F_previous_b7_14 := F_previous_b7_13.keep K14 nin0
  have F_next_b7_14 := F_next_b7_13.keep K14 nin0
  have F_firstChild_b7_14 := F_firstChild_b7_13.keep K14 nin0
  have F_lastChild_b7_14 := F_lastChild_b7_13.keep K14 nin0
  have F_name_b7_14 := F_name_b7_13.keep K14 nin0
  have E_b10_14 := E_b10_13.keep K14
  have E_b11_0_14 := E_b11_0_13.keep K14
  have A_b11_1_14 := A_b11_1_13.keep K14 nin0
  have F_coder_b11_0_14 := F_coder_b11_0_13.keep K14 nin0
  have F_value_b11_0_14 := F_value_b11_0_13.keep K14 nin0
  have F_parent_b10_14 := F_parent_b10_13.keep K14 nin0
  have F_previous_b10_14 := F_previous_b10_13.keep K14 nin0
  have F_next_b10_14 := F_next_b10_13.keep K14 nin0
  have F_firstChild_b10_14 := F_firstChild_b10_13.keep K14 nin0
  have F_lastChild_b10_14 := F_lastChild_b10_13.keep K14 nin0
  have F_name_b10_14 := F_name_b10_13.keep K14 nin0
  have E_b13_14 := A13.keep K14
  have F_attributes_b13_14 := F_attributes_b13.keep K14 nin0
  have F_texts_b13_14 := F_texts_b13.keep K14 nin0
  have F_name_b13_14 := F_name_b13.keep K14 nin0
  have F_firstChild_b13_14 := F_firstChild_b13.keep K14 nin0
  have F_lastChild_b13_14 := F_lastChild_b13.keep K14 nin0
  have F_parent_b13_14 := F_parent_b13.keep K14 nin0
  have F_previous_b13_14 := F_previous_b13.keep K14 nin0
  have F_next_b13_14 := F_next_b13.keep K14 nin0
  have O14 := O13.keep K14 all0
  have Z14 := Nat.le_trans Z13 K14.1
  have KK14 : Keep h0 T14.heap [] := KK13.trans K14 all0
  clear E_b7_13 E_b8_0_13 A_b8_1_13 F_coder_b8_0_13 F_value_b8_0_13 F_parent_b7_13 F_previous_b7_13 F_next_b7_13 F_firstChild_b7_13 F_lastChild_b7_13 F_name_b7_13 E_b10_13 E_b11_0_13 A_b11_1_13 F_coder_b11_0_13 F_value_b11_0_13 F_parent_b10_13 F_previous_b10_13 F_next_b10_13 F_firstChild_b10_13 F_lastChild_b10_13 F_name_b10_13 A13 F_attributes_b13 F_texts_b13 F_name_b13 F_firstChild_b13 F_lastChild_b13 F_parent_b13 F_previous_b13 F_next_b13 O13 Z13 KK13 K14
  refine Go.step st14 ?_
  show Go p e below _ (T14.setTop (mkF m 76 #[.val (.int p1), .val (.int p2), .val (.int v3), .val (.int v4), .val (.int v5), .val (.int v6), .val (.ref b7), .val (.ref b10), .unset, .unset, .unset, .unset] [(.ref b14_0), (.ref b13), (.ref b13)]))
  obtain ⟨_, _, ⟨T15, L15, k15, n15⟩, -, X15, ⟨Lc15, hQ15, l15, y15, z15⟩, st15⟩ := X14.specialBack hx (y := (⟨"com/example/dataflow_to_dispatch/dataflowtodispatch/model/document/XmlElement", "<init>", "(Ljava/lang/String;)V"⟩ : MethodName)) rfl hown (mvT hZ (hw _ (List.mem_of_getElem? (i := 29) rfl))) (mvT hZ (hw _ (List.mem_of_getElem? (i := 30) rfl))) (mvT hZ (hw _ (List.mem_of_getElem? (i := 31) rfl))) (by decide) (backOf (W := 1) (rm6 l Z a0 hw [] b13 b14_0 .null .null .null .null .null .null .null .null oD T14.heap n0 Z14 F_parent_b13_14 F_previous_b13_14 F_next_b13_14 F_firstChild_b13_14 F_lastChild_b13_14 O14 E_b13_14 F_attributes_b13_14 F_texts_b13_14 F_name_b13_14 S_DEFAULTCAPACITY_EMPTY_ELEMENTDATA A_DEFAULTCAPACITY_EMPTY_ELEMENTDATA g_b13) hZ (hw _ (List.mem_of_getElem? (i := 31) rfl)) (hw _ (List.mem_of_getElem? (i := 2) rfl)) (by decide) (by decide)) (g := (mkF m 76 #[.val (.int p1), .val (.int p2), .val (.int v3), .val (.int v4), .val (.int v5), .val (.int v6), .val (.ref b7), .val (.ref b10), .unset, .unset, .unset, .unset] [(.ref b14_0), (.ref b13), (.ref b13)])) rfl (by rw [hml]; rfl) (Steps.refl _) (a := b13) (argsL := [(.ref b14_0)]) (rest := [(.ref b13)]) (lenOf pd_14 rfl) rfl (by show 2 * 0 + _ ≤ _; exact Nat.le_of_eq rfl) (hb hby at_76) (fun _ _ => ⟨rfl, rfl, (by decide : 13 + 2 ≤ _), (by decide : 51 + 6 ≤ _)⟩)
  dsimp only [Pt.U, Pt.locs, Pt.cells, Pt.slots] at X15 l15 y15 z15 st15 hQ15
  subst l15 y15 z15
  obtain ⟨rfl, N15q, K15, Q15_0, Q15_1, Q15_2, Q15_3, Q15_4, Q15_5, Q15_6⟩ := hQ15
  have N15 := Fr.app N14 N15q
  have E_b7_15 := E_b7_14.keep K15
  have E_b8_0_15 := E_b8_0_14.keep K15
  have A_b8_1_15 := A_b8_1_14.keep K15 (ninS ne_b8_1_b13 nin0)
  have F_coder_b8_0_15 := F_coder_b8_0_14.keep K15 (ninS ne_b8_0_b13 nin0)
  have F_value_b8_0_15 := F_value_b8_0_14.keep K15 (ninS ne_b8_0_b13 nin0)
  have F_parent_b7_15 := F_parent_b7_14.keep K15 (ninS ne_b7_b13 nin0)
  have F_previous_b7_15 := F_previous_b7_14.keep K15 (ninS ne_b7_b13 nin0)
  have F_next_b7_15 := F_next_b7_14.keep K15 (ninS ne_b7_b13 nin0)
  have F_firstChild_b7_15 := F_firstChild_b7_14.keep K15 (ninS ne_b7_b13 nin0)
  have F_lastChild_b7_15 := F_lastChild_b7_14.keep K15 (ninS ne_b7_b13 nin0)
  have F_name_b7_15 := F_name_b7_14.keep K15 (ninS ne_b7_b13 nin0)
  have E_b10_15 := E_b10_14.keep K15
  have E_b11_0_15 := E_b11_0_14.keep K15
  have A_b11_1_15 := A_b11_1_14.keep K15 (ninS ne_b11_1_b13 nin0)
  have F_coder_b11_0_15 := F_coder_b11_0_14.keep K15 (ninS ne_b11_0_b13 nin0)
  have F_value_b11_0_15 := F_value_b11_0_14.keep K15 (ninS ne_b11_0_b13 nin0)
  have F_parent_b10_15 := F_parent_b10_14.keep K15 (ninS ne_b10_b13 nin0)
  have F_previous_b10_15 := F_previous_b10_14.keep K15 (ninS ne_b10_b13 nin0)
  have F_next_b10_15 := F_next_b10_14.keep K15 (ninS ne_b10_b13 nin0)
  have F_firstChild_b10_15 := F_firstChild_b10_14.keep K15 (ninS ne_b10_b13 nin0)
  have F_lastChild_b10_15 := F_lastChild_b10_14.keep K15 (ninS ne_b10_b13 nin0)
  have F_name_b10_15 := F_name_b10_14.keep K15 (ninS ne_b10_b13 nin0)
  have E_b13_15 := E_b13_14.keep K15
  have E_b14_0_15 := Q14_0.keep K15
  have A_b14_1_15 := Q14_1.keep K15 (ninS (Ne.symm ne_b13_b14_1) nin0)
  have F_coder_b14_0_15 := Q14_2.keep K15 (ninS (Ne.symm ne_b13_b14_0) nin0)
  have F_value_b14_0_15 := Q14_3.keep K15 (ninS (Ne.symm ne_b13_b14_0) nin0)
  have O15 := O14.keep K15 (allS g_b13 all0)
  have Z15 := Nat.le_trans Z14 K15.1
  have KK15 : Keep h0 T15.heap [] := KK14.trans K15 (allS (Or.inr sz_b13) all0)
  clear E_b7_14 E_b8_0_14 A_b8_1_14 F_coder_b8_0_14 F_value_b8_0_14 F_parent_b7_14 F_previous_b7_14 F_next_b7_14 F_firstChild_b7_14 F_lastChild_b7_14 F_name_b7_14 E_b10_14 E_b11_0_14 A_b11_1_14 F_coder_b11_0_14 F_value_b11_0_14 F_parent_b10_14 F_previous_b10_14 F_next_b10_14 F_firstChild_b10_14 F_lastChild_b10_14 F_name_b10_14 E_b13_14 Q14_0 Q14_1 Q14_2 Q14_3 O14 Z14 KK14 K15
  refine Go.trans st15 ?_
  show Go p e below _ (T15.setTop (mkF m 79 #[.val (.int p1), .val (.int p2), .val (.int v3), .val (.int v4), .val (.int v5), .val (.int v6), .val (.ref b7), .val (.ref b10), .unset, .unset, .unset, .unset] [(.ref b13)]))
  refine Go.step (fun t k => XS.astore X15.here hx rfl (hb hby at_79) rfl rfl (l' := #[.val (.int p1), .val (.int p2), .val (.int v3), .val (.int v4), .val (.int v5), .val (.int v6), .val (.ref b7), .val (.ref b10), .val (.ref b13), .unset, .unset, .unset]) rfl k) ?_
  show Go p e below _ (T15.setTop (mkF m 81 #[.val (.int p1), .val (.int p2), .val (.int v3), .val (.int v4), .val (.int v5), .val (.int v6), .val (.ref b7), .val (.ref b10), .val (.ref b13), .unset, .unset, .unset] []))
  obtain ⟨T16, h16, X16, e16, E16, A16, D16, -, st16⟩ := newO X15 hx hZ hown (hw _ (List.mem_of_getElem? (i := 0) rfl)) (hw _ (List.mem_of_getElem? (i := 1) rfl)) (hw _ (List.mem_of_getElem? (i := 2) rfl)) rfl (g := (mkF m 81 #[.val (.int p1), .val (.int p2), .val (.int v3), .val (.int v4), .val (.int v5), .val (.int v6), .val (.ref b7), .val (.ref b10), .val (.ref b13), .unset, .unset, .unset] [])) rfl (hb hby at_81) (by decide) (by decide)
  obtain ⟨b16, g16⟩ : ∃ z, z = T15.heap.size := ⟨_, rfl⟩
  rw [← g16] at A16 D16 st16
  have g_b16 : n0 ≤ b16 := Nat.le_trans Z15 (Nat.le_of_eq g16.symm)
  have sz_b16 : h0.size ≤ b16 := Nat.le_trans KK15.1 (Nat.le_of_eq g16.symm)
  have ne_b7_b16 : b7 ≠ b16 := Nat.ne_of_lt (Nat.lt_of_lt_of_le E_b7_15.lt (Nat.le_of_eq g16.symm))
  have ne_b8_0_b16 : b8_0 ≠ b16 := Nat.ne_of_lt (Nat.lt_of_lt_of_le E_b8_0_15.lt (Nat.le_of_eq g16.symm))
  have ne_b8_1_b16 : b8_1 ≠ b16 := Nat.ne_of_lt (Nat.lt_of_lt_of_le A_b8_1_15.lt (Nat.le_of_eq g16.symm))
  have ne_b10_b16 : b10 ≠ b16 := Nat.ne_of_lt (Nat.lt_of_lt_of_le E_b10_15.lt (Nat.le_of_eq g16.symm))
  have ne_b11_0_b16 : b11_0 ≠ b16 := Nat.ne_of_lt (Nat.lt_of_lt_of_le E_b11_0_15.lt (Nat.le_of_eq g16.symm))
  have ne_b11_1_b16 : b11_1 ≠ b16 := Nat.ne_of_lt (Nat.lt_of_lt_of_le A_b11_1_15.lt (Nat.le_of_eq g16.symm))
  have ne_b13_b16 : b13 ≠ b16 := Nat.ne_of_lt (Nat.lt_of_lt_of_le Q15_5.lt (Nat.le_of_eq g16.symm))
  have ne_b14_0_b16 : b14_0 ≠ b16 := Nat.ne_of_lt (Nat.lt_of_lt_of_le E_b14_0_15.lt (Nat.le_of_eq g16.symm))
  have ne_b14_1_b16 : b14_1 ≠ b16 := Nat.ne_of_lt (Nat.lt_of_lt_of_le A_b14_1_15.lt (Nat.le_of_eq g16.symm))
  refine Go.step st16 ?_
  have E_b7_16 := E_b7_15.ext E16
  have E_b8_0_16 := E_b8_0_15.ext E16
  have A_b8_1_16 := A_b8_1_15.ext E16
  have F_coder_b8_0_16 := F_coder_b8_0_15.ext E16
  have F_value_b8_0_16 := F_value_b8_0_15.ext E16
  have F_parent_b7_16 := F_parent_b7_15.ext E16
  have F_previous_b7_16 := F_previous_b7_15.ext E16
  have F_next_b7_16 := F_next_b7_15.ext E16
  have F_firstChild_b7_16 := F_firstChild_b7_15.ext E16
  have F_lastChild_b7_16 := F_lastChild_b7_15.ext E16
  have F_name_b7_16 := F_name_b7_15.ext E16
  have E_b10_16 := E_b10_15.ext E16
  have E_b11_0_16 := E_b11_0_15.ext E16
  have A_b11_1_16 := A_b11_1_15.ext E16
  have F_coder_b11_0_16 := F_coder_b11_0_15.ext E16
  have F_value_b11_0_16 := F_value_b11_0_15.ext E16
  have F_parent_b10_16 := F_parent_b10_15.ext E16
  have F_previous_b10_16 := F_previous_b10_15.ext E16
  have F_next_b10_16 := F_next_b10_15.ext E16
  have F_firstChild_b10_16 := F_firstChild_b10_15.ext E16
  have F_lastChild_b10_16 := F_lastChild_b10_15.ext E16
  have F_name_b10_16 := F_name_b10_15.ext E16
  have E_b13_16 := Q15_5.ext E16
  have E_b14_0_16 := E_b14_0_15.ext E16
  have A_b14_1_16 := A_b14_1_15.ext E16
  have F_coder_b14_0_16 := F_coder_b14_0_15.ext E16
  have F_value_b14_0_16 := F_value_b14_0_15.ext E16
  have F_parent_b13_16 := Q15_0.ext E16
  have F_previous_b13_16 := Q15_1.ext E16
  have F_next_b13_16 := Q15_2.ext E16
  have F_firstChild_b13_16 := Q15_3.ext E16
  have F_lastChild_b13_16 := Q15_4.ext E16
  have F_name_b13_16 := Q15_6.ext E16
  have O16 := O15.ext E16
  have Z16 := Nat.le_trans Z15 E16.1
  have KK16 : Keep h0 h16 [] := KK15.ext E16
  clear E_b7_15 E_b8_0_15 A_b8_1_15 F_coder_b8_0_15 F_value_b8_0_15 F_parent_b7_15 F_previous_b7_15 F_next_b7_15 F_firstChild_b7_15 F_lastChild_b7_15 F_name_b7_15 E_b10_15 E_b11_0_15 A_b11_1_15 F_coder_b11_0_15 F_value_b11_0_15 F_parent_b10_15 F_previous_b10_15 F_next_b10_15 F_firstChild_b10_15 F_lastChild_b10_15 F_name_b10_15 Q15_5 E_b14_0_15 A_b14_1_15 F_coder_b14_0_15 F_value_b14_0_15 Q15_0 Q15_1 Q15_2 Q15_3 Q15_4 Q15_6 O15 Z15 KK15 E16
  have F_attributes_b16 : Fld Z h16 b16 "com/example/dataflow_to_dispatch/dataflowtodispatch/model/document/XmlElement" "attributes" "Ljava/util/List;" .null := D16 (Or.inr (hw _ (List.mem_of_getElem? (i := 58) rfl))) (ty := (.object "java/util/List")) (by decide)
  have F_texts_b16 : Fld Z h16 b16 "com/example/dataflow_to_dispatch/dataflowtodispatch/model/document/XmlElement" "texts" "Ljava/util/List;" .null := D16 (Or.inr (hw _ (List.mem_of_getElem? (i := 60) rfl))) (ty := (.object "java/util/List")) (by decide)
  have F_name_b16 : Fld Z h16 b16 "com/example/dataflow_to_dispatch/dataflowtodispatch/model/document/XmlElement" "name" "Ljava/lang/String;" .null := D16 (Or.inr (hw _ (List.mem_of_getElem? (i := 62) rfl))) (ty := (.object "java/lang/String")) (by decide)
  have F_firstChild_b16 : Fld Z h16 b16 "com/example/dataflow_to_dispatch/dataflowtodispatch/model/document/XmlElement" "firstChild" "Lcom/example/dataflow_to_dispatch/dataflowtodispatch/model/document/XmlElement;" .null := D16 (Or.inl (hw _ (List.mem_of_getElem? (i := 69) rfl))) (ty := (.object "com/example/dataflow_to_dispatch/dataflowtodispatch/model/document/XmlElement")) (by decide)
  have F_lastChild_b16 : Fld Z h16 b16 "com/example/dataflow_to_dispatch/dataflowtodispatch/model/document/XmlElement" "lastChild" "Lcom/example/dataflow_to_dispatch/dataflowtodispatch/model/document/XmlElement;" .null := D16 (Or.inl (hw _ (List.mem_of_getElem? (i := 87) rfl))) (ty := (.object "com/example/dataflow_to_dispatch/dataflowtodispatch/model/document/XmlElement")) (by decide)
  have F_parent_b16 : Fld Z h16 b16 "com/example/dataflow_to_dispatch/dataflowtodispatch/model/document/XmlElement" "parent" "Lcom/example/dataflow_to_dispatch/dataflowtodispatch/model/document/XmlElement;" .null := D16 (Or.inl (hw _ (List.mem_of_getElem? (i := 93) rfl))) (ty := (.object "com/example/dataflow_to_dispatch/dataflowtodispatch/model/document/XmlElement")) (by decide)
  have F_previous_b16 : Fld Z h16 b16 "com/example/dataflow_to_dispatch/dataflowtodispatch/model/document/XmlElement" "previous" "Lcom/example/dataflow_to_dispatch/dataflowtodispatch/model/document/XmlElement;" .null := D16 (Or.inl (hw _ (List.mem_of_getElem? (i := 95) rfl))) (ty := (.object "com/example/dataflow_to_dispatch/dataflowtodispatch/model/document/XmlElement")) (by decide)
  have F_next_b16 : Fld Z h16 b16 "com/example/dataflow_to_dispatch/dataflowtodispatch/model/document/XmlElement" "next" "Lcom/example/dataflow_to_dispatch/dataflowtodispatch/model/document/XmlElement;" .null := D16 (Or.inl (hw _ (List.mem_of_getElem? (i := 97) rfl))) (ty := (.object "com/example/dataflow_to_dispatch/dataflowtodispatch/model/document/XmlElement")) (by decide)
  show Go p e below _ (T16.setTop (mkF m 84 #[.val (.int p1), .val (.int p2), .val (.int v3), .val (.int v4), .val (.int v5), .val (.int v6), .val (.ref b7), .val (.ref b10), .val (.ref b13), .unset, .unset, .unset] [(.ref b16)]))
  refine Go.step (fun t k => XS.dup X16.here hx rfl (hb hby at_84) rfl rfl k) ?_
  show Go p e below _ (T16.setTop (mkF m 85 #[.val (.int p1), .val (.int p2), .val (.int v3), .val (.int v4), .val (.int v5), .val (.int v6), .val (.ref b7), .val (.ref b10), .val (.ref b13), .unset, .unset, .unset] [(.ref b16), (.ref b16)]))
  refine Go.step (fun t k => XS.iload X16.here hx rfl (hb hby at_85) rfl k) ?_
  show Go p e below _ (T16.setTop (mkF m 87 #[.val (.int p1), .val (.int p2), .val (.int v3), .val (.int v4), .val (.int v5), .val (.int v6), .val (.ref b7), .val (.ref b10), .val (.ref b13), .unset, .unset, .unset] [(.int v6), (.ref b16), (.ref b16)]))
  obtain ⟨_, _, ⟨T17, L17, k17, n17⟩, -, X17, ⟨Lc17, hQ17, l17, y17, z17⟩, st17⟩ := Jvm.LawKit.callS X16 hx (y := (⟨"java/lang/String", "valueOf", "(C)Ljava/lang/String;"⟩ : MethodName)) hown (mvT hZ (hw _ (List.mem_of_getElem? (i := 3) rfl))) (mvT hZ (hw _ (List.mem_of_getElem? (i := 4) rfl))) (mvT hZ (hw _ (List.mem_of_getElem? (i := 5) rfl))) (mvT hZ (hw _ (List.mem_of_getElem? (i := 6) rfl))) (by decide) (backOf (W := 2) (rm1 l Z a0 hw [] v6 wC h16 n0 Z16 hC S_COMPACT_STRINGS O16 (can_enc (by rw [hv6]; exact ch_a _) : ¬ ((f2 v6) = (0 : Int32)))) hZ (hw _ (List.mem_of_getElem? (i := 6) rfl)) (hw _ (List.mem_of_getElem? (i := 5) rfl)) (by decide) (by decide)) (g := (mkF m 87 #[.val (.int p1), .val (.int p2), .val (.int v3), .val (.int v4), .val (.int v5), .val (.int v6), .val (.ref b7), .val (.ref b10), .val (.ref b13), .unset, .unset, .unset] [(.int v6), (.ref b16), (.ref b16)])) rfl (by rw [hml]; rfl) (argsL := [(.int v6)]) (rest := [(.ref b16), (.ref b16)]) (lenOf pd_13 rfl) rfl (by show 2 * 0 + _ ≤ _; exact Nat.le_of_eq rfl) (hb hby at_87) (fun _ _ => ⟨rfl, e16, (by decide : 16 + 2 ≤ _), (by decide : 65 + 5 ≤ _)⟩)
  dsimp only [Pt.U, Pt.locs, Pt.cells, Pt.slots] at X17 l17 y17 z17 st17 hQ17
  subst l17 y17 z17
  obtain ⟨b17_0, b17_1, rfl, N17q, K17, sz17_0, sz17_1, Q17_0, Q17_1, Q17_2, Q17_3⟩ := hQ17
  have N17 := Fr.app N15 N17q
  have g_b17_0 : n0 ≤ b17_0 := Nat.le_trans Z16 sz17_0
  have sz_b17_0 : h0.size ≤ b17_0 := Nat.le_trans KK16.1 sz17_0
  have ne_b7_b17_0 : b7 ≠ b17_0 := Nat.ne_of_lt (Nat.lt_of_lt_of_le E_b7_16.lt sz17_0)
  have ne_b8_0_b17_0 : b8_0 ≠ b17_0 := Nat.ne_of_lt (Nat.lt_of_lt_of_le E_b8_0_16.lt sz17_0)
  have ne_b8_1_b17_0 : b8_1 ≠ b17_0 := Nat.ne_of_lt (Nat.lt_of_lt_of_le A_b8_1_16.lt sz17_0)
  have ne_b10_b17_0 : b10 ≠ b17_0 := Nat.ne_of_lt (Nat.lt_of_lt_of_le E_b10_16.lt sz17_0)
  have ne_b11_0_b17_0 : b11_0 ≠ b17_0 := Nat.ne_of_lt (Nat.lt_of_lt_of_le E_b11_0_16.lt sz17_0)
  have ne_b11_1_b17_0 : b11_1 ≠ b17_0 := Nat.ne_of_lt (Nat.lt_of_lt_of_le A_b11_1_16.lt sz17_0)
  have ne_b13_b17_0 : b13 ≠ b17_0 := Nat.ne_of_lt (Nat.lt_of_lt_of_le E_b13_16.lt sz17_0)
  have ne_b14_0_b17_0 : b14_0 ≠ b17_0 := Nat.ne_of_lt (Nat.lt_of_lt_of_le E_b14_0_16.lt sz17_0)
  have ne_b14_1_b17_0 : b14_1 ≠ b17_0 := Nat.ne_of_lt (Nat.lt_of_lt_of_le A_b14_1_16.lt sz17_0)
  have ne_b16_b17_0 : b16 ≠ b17_0 := Nat.ne_of_lt (Nat.lt_of_lt_of_le A16.lt sz17_0)
  have g_b17_1 : n0 ≤ b17_1 := Nat.le_trans Z16 sz17_1
  have sz_b17_1 : h0.size ≤ b17_1 := Nat.le_trans KK16.1 sz17_1
  have ne_b7_b17_1 : b7 ≠ b17_1 := Nat.ne_of_lt (Nat.lt_of_lt_of_le E_b7_16.lt sz17_1)
  have ne_b8_0_b17_1 : b8_0 ≠ b17_1 := Nat.ne_of_lt (Nat.lt_of_lt_of_le E_b8_0_16.lt sz17_1)
  have ne_b8_1_b17_1 : b8_1 ≠ b17_1 := Nat.ne_of_lt (Nat.lt_of_lt_of_le A_b8_1_16.lt sz17_1)
  have ne_b10_b17_1 : b10 ≠ b17_1 := Nat.ne_of_lt (Nat.lt_of_lt_of_le E_b10_16.lt sz17_1)
  have ne_b11_0_b17_1 : b11_0 ≠ b17_1 := Nat.ne_of_lt (Nat.lt_of_lt_of_le E_b11_0_16.lt sz17_1)
  have ne_b11_1_b17_1 : b11_1 ≠ b17_1 := Nat.ne_of_lt (Nat.lt_of_lt_of_le A_b11_1_16.lt sz17_1)
  have ne_b13_b17_1 : b13 ≠ b17_1 := Nat.ne_of_lt (Nat.lt_of_lt_of_le E_b13_16.lt sz17_1)
  have ne_b14_0_b17_1 : b14_0 ≠ b17_1 := Nat.ne_of_lt (Nat.lt_of_lt_of_le E_b14_0_16.lt sz17_1)
  have ne_b14_1_b17_1 : b14_1 ≠ b17_1 := Nat.ne_of_lt (Nat.lt_of_lt_of_le A_b14_1_16.lt sz17_1)
  have ne_b16_b17_1 : b16 ≠ b17_1 := Nat.ne_of_lt (Nat.lt_of_lt_of_le A16.lt sz17_1)
  have E_b7_17 := E_b7_16.keep K17
  have E_b8_0_17 := E_b8_0_16.keep K17
  have A_b8_1_17 := A_b8_1_16.keep K17 nin0
  have F_coder_b8_0_17 := F_coder_b8_0_16.keep K17 nin0
  have F_value_b8_0_17 := F_value_b8_0_16.keep K17 nin0
  have F_parent_b7_17 := F_parent_b7_16.keep K17 nin0
  have F_previous_b7_17 := F_previous_b7_16.keep K17 nin0
  have F_next_b7_17 := F_next_b7_16.keep K17 nin0
  have F_firstChild_b7_17 := F_firstChild_b7_16.keep K17 nin0
  have F_lastChild_b7_17 := F_lastChild_b7_16.keep K17 nin0
  have F_name_b7_17 := F_name_b7_16.keep K17 nin0
  have E_b10_17 := E_b10_16.keep K17
  have E_b11_0_17 := E_b11_0_16.keep K17
  have A_b11_1_17 := A_b11_1_16.keep K17 nin0
  have F_coder_b11_0_17 := F_coder_b11_0_16.keep K17 nin0
  have F_value_b11_0_17 := F_value_b11_0_16.keep K17 nin0
  have F_parent_b10_17 := F_parent_b10_16.keep K17 nin0
  have F_previous_b10_17 := F_previous_b10_16.keep K17 nin0
  have F_next_b10_17 := F_next_b10_16.keep K17 nin0
  have F_firstChild_b10_17 := F_firstChild_b10_16.keep K17 nin0
  have F_lastChild_b10_17 := F_lastChild_b10_16.keep K17 nin0
  have F_name_b10_17 := F_name_b10_16.keep K17 nin0
  have E_b13_17 := E_b13_16.keep K17
  have E_b14_0_17 := E_b14_0_16.keep K17
  have A_b14_1_17 := A_b14_1_16.keep K17 nin0
  have F_coder_b14_0_17 := F_coder_b14_0_16.keep K17 nin0
  have F_value_b14_0_17 := F_value_b14_0_16.keep K17 nin0
  have F_parent_b13_17 := F_parent_b13_16.keep K17 nin0
  have F_previous_b13_17 := F_previous_b13_16.keep K17 nin0
  have F_next_b13_17 := F_next_b13_16.keep K17 nin0
  have F_firstChild_b13_17 := F_firstChild_b13_16.keep K17 nin0
  have F_lastChild_b13_17 := F_lastChild_b13_16.keep K17 nin0
  have F_name_b13_17 := F_name_b13_16.keep K17 nin0
  have E_b16_17 := A16.keep K17
  have F_attributes_b16_17 := F_attributes_b16.keep K17 nin0
  have F_texts_b16_17 := F_texts_b16.keep K17 nin0
  have F_name_b16_17 := F_name_b16.keep K17 nin0
  have F_firstChild_b16_17 := F_firstChild_b16.keep K17 nin0
  have F_lastChild_b16_17 := F_lastChild_b16.keep K17 nin0
  have F_parent_b16_17 := F_parent_b16.keep K17 nin0
  have F_previous_b16_17 := F_previous_b16.keep K17 nin0
  have F_next_b16_17 := F_next_b16.keep K17 nin0
  have O17 := O16.keep K17 all0
  have Z17 := Nat.le_trans Z16 K17.1
  have KK17 : Keep h0 T17.heap [] := KK16.trans K17 all0
  clear E_b7_16 E_b8_0_16 A_b8_1_16 F_coder_b8_0_16 F_value_b8_0_16 F_parent_b7_16 F_previous_b7_16 F_next_b7_16 F_firstChild_b7_16 F_lastChild_b7_16 F_name_b7_16 E_b10_16 E_b11_0_16 A_b11_1_16 F_coder_b11_0_16 F_value_b11_0_16 F_parent_b10_16 F_previous_b10_16 F_next_b10_16 F_firstChild_b10_16 F_lastChild_b10_16 F_name_b10_16 E_b13_16 E_b14_0_16 A_b14_1_16 F_coder_b14_0_16 F_value_b14_0_16 F_parent_b13_16 F_previous_b13_16 F_next_b13_16 F_firstChild_b13_16 F_lastChild_b13_16 F_name_b13_16 A16 F_attributes_b16 F_texts_b16 F_name_b16 F_firstChild_b16 F_lastChild_b16 F_parent_b16 F_previous_b16 F_next_b16 O16 Z16 KK16 K17
  refine Go.step st17 ?_
  show Go p e below _ (T17.setTop (mkF m 90 #[.val (.int p1), .val (.int p2), .val (.int v3), .val (.int v4), .val (.int v5), .val (.int v6), .val (.ref b7), .val (.ref b10), .val (.ref b13), .unset, .unset, .unset] [(.ref b17_0), (.ref b16), (.ref b16)]))
  obtain ⟨_, _, ⟨T18, L18, k18, n18⟩, -, X18, ⟨Lc18, hQ18, l18, y18, z18⟩, st18⟩ := X17.specialBack hx (y := (⟨"com/example/dataflow_to_dispatch/dataflowtodispatch/model/document/XmlElement", "<init>", "(Ljava/lang/String;)V"⟩ : MethodName)) rfl hown (mvT hZ (hw _ (List.mem_of_getElem? (i := 29) rfl))) (mvT hZ (hw _ (List.mem_of_getElem? (i := 30) rfl))) (mvT hZ (hw _ (List.mem_of_getElem? (i := 31) rfl))) (by decide) (backOf (W := 1) (rm6 l Z a0 hw [] b16 b17_0 .null .null .null .null .null .null .null .null oD T17.heap n0 Z17 F_parent_b16_17 F_previous_b16_17 F_next_b16_17 F_firstChild_b16_17 F_lastChild_b16_17 O17 E_b16_17 F_attributes_b16_17 F_texts_b16_17 F_name_b16_17 S_DEFAULTCAPACITY_EMPTY_ELEMENTDATA A_DEFAULTCAPACITY_EMPTY_ELEMENTDATA g_b16) hZ (hw _ (List.mem_of_getElem? (i := 31) rfl)) (hw _ (List.mem_of_getElem? (i := 2) rfl)) (by decide) (by decide)) (g := (mkF m 90 #[.val (.int p1), .val (.int p2), .val (.int v3), .val (.int v4), .val (.int v5), .val (.int v6), .val (.ref b7), .val (.ref b10), .val (.ref b13), .unset, .unset, .unset] [(.ref b17_0), (.ref b16), (.ref b16)])) rfl (by rw [hml]; rfl) (Steps.refl _) (a := b16) (argsL := [(.ref b17_0)]) (rest := [(.ref b16)]) (lenOf pd_14 rfl) rfl (by show 2 * 0 + _ ≤ _; exact Nat.le_of_eq rfl) (hb hby at_90) (fun _ _ => ⟨rfl, rfl, (by decide : 18 + 2 ≤ _), (by decide : 70 + 6 ≤ _)⟩)
  dsimp only [Pt.U, Pt.locs, Pt.cells, Pt.slots] at X18 l18 y18 z18 st18 hQ18
  subst l18 y18 z18
  obtain ⟨rfl, N18q, K18, Q18_0, Q18_1, Q18_2, Q18_3, Q18_4, Q18_5, Q18_6⟩ := hQ18
  have N18 := Fr.app N17 N18q
  have E_b7_18 := E_b7_17.keep K18
  have E_b8_0_18 := E_b8_0_17.keep K18
  have A_b8_1_18 := A_b8_1_17.keep K18 (ninS ne_b8_1_b16 nin0)
  have F_coder_b8_0_18 := F_coder_b8_0_17.keep K18 (ninS ne_b8_0_b16 nin0)
  have F_value_b8_0_18 := F_value_b8_0_17.keep K18 (ninS ne_b8_0_b16 nin0)
  have F_parent_b7_18 := F_parent_b7_17.keep K18 (ninS ne_b7_b16 nin0)
  have F_previous_b7_18 := F_previous_b7_17.keep K18 (ninS ne_b7_b16 nin0)
  have F_next_b7_18 := F_next_b7_17.keep K18 (ninS ne_b7_b16 nin0)
  have F_firstChild_b7_18 := F_firstChild_b7_17.keep K18 (ninS ne_b7_b16 nin0)
  have F_lastChild_b7_18 := F_lastChild_b7_17.keep K18 (ninS ne_b7_b16 nin0)
  have F_name_b7_18 := F_name_b7_17.keep K18 (ninS ne_b7_b16 nin0)
  have E_b10_18 := E_b10_17.keep K18
  have E_b11_0_18 := E_b11_0_17.keep K18
  have A_b11_1_18 := A_b11_1_17.keep K18 (ninS ne_b11_1_b16 nin0)
  have F_coder_b11_0_18 := F_coder_b11_0_17.keep K18 (ninS ne_b11_0_b16 nin0)
  have F_value_b11_0_18 := F_value_b11_0_17.keep K18 (ninS ne_b11_0_b16 nin0)
  have F_parent_b10_18 := F_parent_b10_17.keep K18 (ninS ne_b10_b16 nin0)
  have F_previous_b10_18 := F_previous_b10_17.keep K18 (ninS ne_b10_b16 nin0)
  have F_next_b10_18 := F_next_b10_17.keep K18 (ninS ne_b10_b16 nin0)
  have F_firstChild_b10_18 := F_firstChild_b10_17.keep K18 (ninS ne_b10_b16 nin0)
  have F_lastChild_b10_18 := F_lastChild_b10_17.keep K18 (ninS ne_b10_b16 nin0)
  have F_name_b10_18 := F_name_b10_17.keep K18 (ninS ne_b10_b16 nin0)
  have E_b13_18 := E_b13_17.keep K18
  have E_b14_0_18 := E_b14_0_17.keep K18
  have A_b14_1_18 := A_b14_1_17.keep K18 (ninS ne_b14_1_b16 nin0)
  have F_coder_b14_0_18 := F_coder_b14_0_17.keep K18 (ninS ne_b14_0_b16 nin0)
  have F_value_b14_0_18 := F_value_b14_0_17.keep K18 (ninS ne_b14_0_b16 nin0)
  have F_parent_b13_18 := F_parent_b13_17.keep K18 (ninS ne_b13_b16 nin0)
  have F_previous_b13_18 := F_previous_b13_17.keep K18 (ninS ne_b13_b16 nin0)
  have F_next_b13_18 := F_next_b13_17.keep K18 (ninS ne_b13_b16 nin0)
  have F_firstChild_b13_18 := F_firstChild_b13_17.keep K18 (ninS ne_b13_b16 nin0)
  have F_lastChild_b13_18 := F_lastChild_b13_17.keep K18 (ninS ne_b13_b16 nin0)
  have F_name_b13_18 := F_name_b13_17.keep K18 (ninS ne_b13_b16 nin0)
  have E_b16_18 := E_b16_17.keep K18
  have E_b17_0_18 := Q17_0.keep K18
  have A_b17_1_18 := Q17_1.keep K18 (ninS (Ne.symm ne_b16_b17_1) nin0)
  have F_coder_b17_0_18 := Q17_2.keep K18 (ninS (Ne.symm ne_b16_b17_0) nin0)
  have F_value_b17_0_18 := Q17_3.keep K18 (ninS (Ne.symm ne_b16_b17_0) nin0)
  have O18 := O17.keep K18 (allS g_b16 all0)
  have Z18 := Nat.le_trans Z17 K18.1
  have KK18 : Keep h0 T18.heap [] := KK17.trans K18 (allS (Or.inr sz_b16) all0)
  clear E_b7_17 E_b8_0_17 A_b8_1_17 F_coder_b8_0_17 F_value_b8_0_17 F_parent_b7_17 F_previous_b7_17 F_next_b7_17 F_firstChild_b7_17 F_lastChild_b7_17 F_name_b7_17 E_b10_17 E_b11_0_17 A_b11_1_17 F_coder_b11_0_17 F_value_b11_0_17 F_parent_b10_17 F_previous_b10_17 F_next_b10_17 F_firstChild_b10_17 F_lastChild_b10_17 F_name_b10_17 E_b13_17 E_b14_0_17 A_b14_1_17 F_coder_b14_0_17 F_value_b14_0_17 F_parent_b13_17 F_previous_b13_17 F_next_b13_17 F_firstChild_b13_17 F_lastChild_b13_17 F_name_b13_17 E_b16_17 Q17_0 Q17_1 Q17_2 Q17_3 O17 Z17 KK17 K18
  refine Go.trans st18 ?_
  show Go p e below _ (T18.setTop (mkF m 93 #[.val (.int p1), .val (.int p2), .val (.int v3), .val (.int v4), .val (.int v5), .val (.int v6), .val (.ref b7), .val (.ref b10), .val (.ref b13), .unset, .unset, .unset] [(.ref b16)]))
  refine Go.step (fun t k => XS.astore X18.here hx rfl (hb hby at_93) rfl rfl (l' := #[.val (.int p1), .val (.int p2), .val (.int v3), .val (.int v4), .val (.int v5), .val (.int v6), .val (.ref b7), .val (.ref b10), .val (.ref b13), .val (.ref b16), .unset, .unset]) rfl k) ?_
  show Go p e below _ (T18.setTop (mkF m 95 #[.val (.int p1), .val (.int p2), .val (.int v3), .val (.int v4), .val (.int v5), .val (.int v6), .val (.ref b7), .val (.ref b10), .val (.ref b13), .val (.ref b16), .unset, .unset] []))
  refine Go.step (fun t k => XS.iconst X18.here hx rfl (hb hby at_95)  k) ?_
  show Go p e below _ (T18.setTop (mkF m 96 #[.val (.int p1), .val (.int p2), .val (.int v3), .val (.int v4), .val (.int v5), .val (.int v6), .val (.ref b7), .val (.ref b10), .val (.ref b13), .val (.ref b16), .unset, .unset] [(.int (1 : Int32))]))
  refine Go.step (fun t k => XS.istore X18.here hx rfl (hb hby at_96) rfl (l' := #[.val (.int p1), .val (.int p2), .val (.int v3), .val (.int v4), .val (.int v5), .val (.int v6), .val (.ref b7), .val (.ref b10), .val (.ref b13), .val (.ref b16), .val (.int (1 : Int32)), .unset]) rfl k) ?_
  show Go p e below _ (T18.setTop (mkF m 98 #[.val (.int p1), .val (.int p2), .val (.int v3), .val (.int v4), .val (.int v5), .val (.int v6), .val (.ref b7), .val (.ref b10), .val (.ref b13), .val (.ref b16), .val (.int (1 : Int32)), .unset] []))
  by_cases hc19 : v3 = (0 : Int32)
  · rw [hc19]
    show Go p e below _ (T18.setTop (mkF m 98 #[.val (.int p1), .val (.int p2), .val (.int (0 : Int32)), .val (.int v4), .val (.int v5), .val (.int v6), .val (.ref b7), .val (.ref b10), .val (.ref b13), .val (.ref b16), .val (.int (1 : Int32)), .unset] []))
    refine Go.step (fun t k => XS.iloadN X18.here hx rfl (hb hby at_98) rfl k) ?_
    show Go p e below _ (T18.setTop (mkF m 99 #[.val (.int p1), .val (.int p2), .val (.int (0 : Int32)), .val (.int v4), .val (.int v5), .val (.int v6), .val (.ref b7), .val (.ref b10), .val (.ref b13), .val (.ref b16), .val (.int (1 : Int32)), .unset] [(.int (0 : Int32))]))
    refine Go.step (fun t k => XS.iconst X18.here hx rfl (hb hby at_99)  k) ?_
    show Go p e below _ (T18.setTop (mkF m 100 #[.val (.int p1), .val (.int p2), .val (.int (0 : Int32)), .val (.int v4), .val (.int v5), .val (.int v6), .val (.ref b7), .val (.ref b10), .val (.ref b13), .val (.ref b16), .val (.int (1 : Int32)), .unset] [(.int (1 : Int32)), (.int (0 : Int32))]))
    refine Go.step (fun t k => XS.icmpYes X18.here hx rfl (pc0 := 100) (pc' := 127) rfl (hb hby at_100) rfl (tlt (by decide : (0 : Int32) < (1 : Int32))).1 (by decide) (by decide) k) ?_
    show Go p e below _ (T18.setTop (mkF m 127 #[.val (.int p1), .val (.int p2), .val (.int (0 : Int32)), .val (.int v4), .val (.int v5), .val (.int v6), .val (.ref b7), .val (.ref b10), .val (.ref b13), .val (.ref b16), .val (.int (1 : Int32)), .unset] []))
    refine Go.step (fun t k => XS.iloadN X18.here hx rfl (hb hby at_127) rfl k) ?_
    show Go p e below _ (T18.setTop (mkF m 128 #[.val (.int p1), .val (.int p2), .val (.int (0 : Int32)), .val (.int v4), .val (.int v5), .val (.int v6), .val (.ref b7), .val (.ref b10), .val (.ref b13), .val (.ref b16), .val (.int (1 : Int32)), .unset] [(.int (0 : Int32))]))
    refine Go.step (fun t k => XS.iconst X18.here hx rfl (hb hby at_128)  k) ?_
    show Go p e below _ (T18.setTop (mkF m 129 #[.val (.int p1), .val (.int p2), .val (.int (0 : Int32)), .val (.int v4), .val (.int v5), .val (.int v6), .val (.ref b7), .val (.ref b10), .val (.ref b13), .val (.ref b16), .val (.int (1 : Int32)), .unset] [(.int (2 : Int32)), (.int (0 : Int32))]))
    refine Go.step (fun t k => XS.icmpYes X18.here hx rfl (pc0 := 129) (pc' := 156) rfl (hb hby at_129) rfl (tlt (by decide : (0 : Int32) < (2 : Int32))).1 (by decide) (by decide) k) ?_
    show Go p e below _ (T18.setTop (mkF m 156 #[.val (.int p1), .val (.int p2), .val (.int (0 : Int32)), .val (.int v4), .val (.int v5), .val (.int v6), .val (.ref b7), .val (.ref b10), .val (.ref b13), .val (.ref b16), .val (.int (1 : Int32)), .unset] []))
    refine Go.step (fun t k => XS.iloadN X18.here hx rfl (hb hby at_156) rfl k) ?_
    show Go p e below _ (T18.setTop (mkF m 157 #[.val (.int p1), .val (.int p2), .val (.int (0 : Int32)), .val (.int v4), .val (.int v5), .val (.int v6), .val (.ref b7), .val (.ref b10), .val (.ref b13), .val (.ref b16), .val (.int (1 : Int32)), .unset] [(.int (0 : Int32))]))
    refine Go.step (fun t k => XS.iconst X18.here hx rfl (hb hby at_157)  k) ?_
    show Go p e below _ (T18.setTop (mkF m 158 #[.val (.int p1), .val (.int p2), .val (.int (0 : Int32)), .val (.int v4), .val (.int v5), .val (.int v6), .val (.ref b7), .val (.ref b10), .val (.ref b13), .val (.ref b16), .val (.int (1 : Int32)), .unset] [(.int (3 : Int32)), (.int (0 : Int32))]))
    refine Go.step (fun t k => XS.icmpYes X18.here hx rfl (pc0 := 158) (pc' := 185) rfl (hb hby at_158) rfl (tlt (by decide : (0 : Int32) < (3 : Int32))).1 (by decide) (by decide) k) ?_
    show Go p e below _ (T18.setTop (mkF m 185 #[.val (.int p1), .val (.int p2), .val (.int (0 : Int32)), .val (.int v4), .val (.int v5), .val (.int v6), .val (.ref b7), .val (.ref b10), .val (.ref b13), .val (.ref b16), .val (.int (1 : Int32)), .unset] []))
    refine Go.step (fun t k => XS.aload X18.here hx rfl (hb hby at_185) rfl rfl k) ?_
    show Go p e below _ (T18.setTop (mkF m 187 #[.val (.int p1), .val (.int p2), .val (.int (0 : Int32)), .val (.int v4), .val (.int v5), .val (.int v6), .val (.ref b7), .val (.ref b10), .val (.ref b13), .val (.ref b16), .val (.int (1 : Int32)), .unset] [(.ref b7)]))
    obtain ⟨cq20, kq20, q20a, q20b, q20c⟩ := isOf hZ rfl E_b7_18
    obtain ⟨_, _, ⟨T20, L20, k20, n20⟩, -, X20, ⟨Lc20, hQ20, l20, y20, z20⟩, st20⟩ := X18.virtualBack hx (y := (⟨"com/example/dataflow_to_dispatch/dataflowtodispatch/model/document/XmlElement", "children", "()Ljava/util/List;"⟩ : MethodName)) (z := (⟨"com/example/dataflow_to_dispatch/dataflowtodispatch/model/document/XmlElement", "children", "()Ljava/util/List;"⟩ : MethodName)) hown (mvT hZ (hw _ (List.mem_of_getElem? (i := 63) rfl))) (mvT hZ (hw _ (List.mem_of_getElem? (i := 64) rfl))) (notFace_of_selects (args := #[]) (mvT hZ (hw _ (List.mem_of_getElem? (i := 66) rfl)))) (mvT hZ (hw _ (List.mem_of_getElem? (i := 66) rfl))) (mvT hZ (hw _ (List.mem_of_getElem? (i := 65) rfl))) (by decide) (backOf (W := 0) (rm10_0 l Z a0 hw [] b7 oD T18.heap n0 Z18 F_firstChild_b7_18 O18 S_DEFAULTCAPACITY_EMPTY_ELEMENTDATA A_DEFAULTCAPACITY_EMPTY_ELEMENTDATA) hZ (hw _ (List.mem_of_getElem? (i := 67) rfl)) (hw _ (List.mem_of_getElem? (i := 2) rfl)) (by decide) (by decide)) q20a q20c (g := (mkF m 187 #[.val (.int p1), .val (.int p2), .val (.int (0 : Int32)), .val (.int v4), .val (.int v5), .val (.int v6), .val (.ref b7), .val (.ref b10), .val (.ref b13), .val (.ref b16), .val (.int (1 : Int32)), .unset] [(.ref b7)])) rfl (by rw [hml]; rfl) (Steps.refl _) (argsL := []) (rest := []) (lenOf pd_15 rfl) rfl (by show 2 * 0 + _ ≤ _; exact Nat.le_of_eq rfl) (hb hby at_187) (fun _ _ => ⟨rfl, rfl, (by decide : 20 + 1 ≤ _), (by decide : 76 + 3 ≤ _)⟩)
    dsimp only [Pt.U, Pt.locs, Pt.cells, Pt.slots] at X20 l20 y20 z20 st20 hQ20
    subst l20 y20 z20
    obtain ⟨b20_0, rfl, N20q, K20, sz20_0, Q20_0, Q20_1, Q20_2, Q20_3⟩ := hQ20
    have N20 := Fr.app N18 N20q
    have g_b20_0 : n0 ≤ b20_0 := Nat.le_trans Z18 sz20_0
    have sz_b20_0 : h0.size ≤ b20_0 := Nat.le_trans KK18.1 sz20_0
    have ne_b7_b20_0 : b7 ≠ b20_0 := Nat.ne_of_lt (Nat.lt_of_lt_of_le E_b7_18.lt sz20_0)
    have ne_b8_0_b20_0 : b8_0 ≠ b20_0 := Nat.ne_of_lt (Nat.lt_of_lt_of_le E_b8_0_18.lt sz20_0)
    have ne_b8_1_b20_0 : b8_1 ≠ b20_0 := Nat.ne_of_lt (Nat.lt_of_lt_of_le A_b8_1_18.lt sz20_0)
    have ne_b10_b20_0 : b10 ≠ b20_0 := Nat.ne_of_lt (Nat.lt_of_lt_of_le E_b10_18.lt sz20_0)
    have ne_b11_0_b20_0 : b11_0 ≠ b20_0 := Nat.ne_of_lt (Nat.lt_of_lt_of_le E_b11_0_18.lt sz20_0)
    have ne_b11_1_b20_0 : b11_1 ≠ b20_0 := Nat.ne_of_lt (Nat.lt_of_lt_of_le A_b11_1_18.lt sz20_0)
    have ne_b13_b20_0 : b13 ≠ b20_0 := Nat.ne_of_lt (Nat.lt_of_lt_of_le E_b13_18.lt sz20_0)
    have ne_b14_0_b20_0 : b14_0 ≠ b20_0 := Nat.ne_of_lt (Nat.lt_of_lt_of_le E_b14_0_18.lt sz20_0)
    have ne_b14_1_b20_0 : b14_1 ≠ b20_0 := Nat.ne_of_lt (Nat.lt_of_lt_of_le A_b14_1_18.lt sz20_0)
    have ne_b16_b20_0 : b16 ≠ b20_0 := Nat.ne_of_lt (Nat.lt_of_lt_of_le Q18_5.lt sz20_0)
    have ne_b17_0_b20_0 : b17_0 ≠ b20_0 := Nat.ne_of_lt (Nat.lt_of_lt_of_le E_b17_0_18.lt sz20_0)
    have ne_b17_1_b20_0 : b17_1 ≠ b20_0 := Nat.ne_of_lt (Nat.lt_of_lt_of_le A_b17_1_18.lt sz20_0)
    have E_b7_20 := E_b7_18.keep K20
    have E_b8_0_20 := E_b8_0_18.keep K20
    have A_b8_1_20 := A_b8_1_18.keep K20 nin0
    have F_coder_b8_0_20 := F_coder_b8_0_18.keep K20 nin0
    have F_value_b8_0_20 := F_value_b8_0_18.keep K20 nin0
    have F_parent_b7_20 := F_parent_b7_18.keep K20 nin0
    have F_previous_b7_20 := F_previous_b7_18.keep K20 nin0
    have F_next_b7_20 := F_next_b7_18.keep K20 nin0
    have F_firstChild_b7_20 := F_firstChild_b7_18.keep K20 nin0
    have F_lastChild_b7_20 := F_lastChild_b7_18.keep K20 nin0
    have F_name_b7_20 := F_name_b7_18.keep K20 nin0
    have E_b10_20 := E_b10_18.keep K20
    have E_b11_0_20 := E_b11_0_18.keep K20
    have A_b11_1_20 := A_b11_1_18.keep K20 nin0
    have F_coder_b11_0_20 := F_coder_b11_0_18.keep K20 nin0
    have F_value_b11_0_20 := F_value_b11_0_18.keep K20 nin0
    have F_parent_b10_20 := F_parent_b10_18.keep K20 nin0
    have F_previous_b10_20 := F_previous_b10_18.keep K20 nin0
    have F_next_b10_20 := F_next_b10_18.keep K20 nin0
    have F_firstChild_b10_20 := F_firstChild_b10_18.keep K20 nin0
    have F_lastChild_b10_20 := F_lastChild_b10_18.keep K20 nin0
    have F_name_b10_20 := F_name_b10_18.keep K20 nin0
    have E_b13_20 := E_b13_18.keep K20
    have E_b14_0_20 := E_b14_0_18.keep K20
    have A_b14_1_20 := A_b14_1_18.keep K20 nin0
    have F_coder_b14_0_20 := F_coder_b14_0_18.keep K20 nin0
    have F_value_b14_0_20 := F_value_b14_0_18.keep K20 nin0
    have F_parent_b13_20 := F_parent_b13_18.keep K20 nin0
    have F_previous_b13_20 := F_previous_b13_18.keep K20 nin0
    have F_next_b13_20 := F_next_b13_18.keep K20 nin0
    have F_firstChild_b13_20 := F_firstChild_b13_18.keep K20 nin0
    have F_lastChild_b13_20 := F_lastChild_b13_18.keep K20 nin0
    have F_name_b13_20 := F_name_b13_18.keep K20 nin0
    have E_b16_20 := Q18_5.keep K20
    have E_b17_0_20 := E_b17_0_18.keep K20
    have A_b17_1_20 := A_b17_1_18.keep K20 nin0
    have F_coder_b17_0_20 := F_coder_b17_0_18.keep K20 nin0
    have F_value_b17_0_20 := F_value_b17_0_18.keep K20 nin0
    have F_parent_b16_20 := Q18_0.keep K20 nin0
    have F_previous_b16_20 := Q18_1.keep K20 nin0
    have F_next_b16_20 := Q18_2.keep K20 nin0
    have F_firstChild_b16_20 := Q18_3.keep K20 nin0
    have F_lastChild_b16_20 := Q18_4.keep K20 nin0
    have F_name_b16_20 := Q18_6.keep K20 nin0
    have O20 := O18.keep K20 all0
    have Z20 := Nat.le_trans Z18 K20.1
    have KK20 : Keep h0 T20.heap [] := KK18.trans K20 all0
    clear E_b7_18 E_b8_0_18 A_b8_1_18 F_coder_b8_0_18 F_value_b8_0_18 F_parent_b7_18 F_previous_b7_18 F_next_b7_18 F_firstChild_b7_18 F_lastChild_b7_18 F_name_b7_18 E_b10_18 E_b11_0_18 A_b11_1_18 F_coder_b11_0_18 F_value_b11_0_18 F_parent_b10_18 F_previous_b10_18 F_next_b10_18 F_firstChild_b10_18 F_lastChild_b10_18 F_name_b10_18 E_b13_18 E_b14_0_18 A_b14_1_18 F_coder_b14_0_18 F_value_b14_0_18 F_parent_b13_18 F_previous_b13_18 F_next_b13_18 F_firstChild_b13_18 F_lastChild_b13_18 F_name_b13_18 Q18_5 E_b17_0_18 A_b17_1_18 F_coder_b17_0_18 F_value_b17_0_18 Q18_0 Q18_1 Q18_2 Q18_3 Q18_4 Q18_6 O18 Z18 KK18 K20
    refine Go.trans st20 ?_
    show Go p e below _ (T20.setTop (mkF m 190 #[.val (.int p1), .val (.int p2), .val (.int (0 : Int32)), .val (.int v4), .val (.int v5), .val (.int v6), .val (.ref b7), .val (.ref b10), .val (.ref b13), .val (.ref b16), .val (.int (1 : Int32)), .unset] [(.ref b20_0)]))
    refine Go.step (fun t k => XS.astore X20.here hx rfl (hb hby at_190) rfl rfl (l' := #[.val (.int p1), .val (.int p2), .val (.int (0 : Int32)), .val (.int v4), .val (.int v5), .val (.int v6), .val (.ref b7), .val (.ref b10), .val (.ref b13), .val (.ref b16), .val (.int (1 : Int32)), .val (.ref b20_0)]) rfl k) ?_
    show Go p e below _ (T20.setTop (mkF m 192 #[.val (.int p1), .val (.int p2), .val (.int (0 : Int32)), .val (.int v4), .val (.int v5), .val (.int v6), .val (.ref b7), .val (.ref b10), .val (.ref b13), .val (.ref b16), .val (.int (1 : Int32)), .val (.ref b20_0)] []))
    refine Go.step (fun t k => XS.aload X20.here hx rfl (hb hby at_192) rfl rfl k) ?_
    show Go p e below _ (T20.setTop (mkF m 194 #[.val (.int p1), .val (.int p2), .val (.int (0 : Int32)), .val (.int v4), .val (.int v5), .val (.int v6), .val (.ref b7), .val (.ref b10), .val (.ref b13), .val (.ref b16), .val (.int (1 : Int32)), .val (.ref b20_0)] [(.ref b20_0)]))
    obtain ⟨cq21, kq21, q21a, q21b, q21c⟩ := isOf hZ rfl Q20_0
    obtain ⟨_, _, ⟨T21, L21, k21, n21⟩, -, X21, ⟨Lc21, hQ21, l21, y21, z21⟩, st21⟩ := X20.interfaceBack hx (xi := (⟨"java/util/List", "size", "()I"⟩ : MethodName)) (y := (⟨"java/util/ArrayList", "size", "()I"⟩ : MethodName)) hown (mvT hZ (hw _ (List.mem_of_getElem? (i := 70) rfl))) (mvT hZ (hw _ (List.mem_of_getElem? (i := 71) rfl))) (mvT hZ (hw _ (List.mem_of_getElem? (i := 72) rfl))) (mvT hZ (hw _ (List.mem_of_getElem? (i := 73) rfl))) (mvT hZ (hw _ (List.mem_of_getElem? (i := 74) rfl))) (mvT hZ (hw _ (List.mem_of_getElem? (i := 75) rfl))) (mvT hZ (hw _ (List.mem_of_getElem? (i := 76) rfl))) (mvT hZ (hw _ (List.mem_of_getElem? (i := 77) rfl))) (by decide) (backOf (W := 0) (rm11 l Z a0 hw [] b20_0 (0 : Int32) T20.heap n0 Z20 Q20_2) hZ (hw _ (List.mem_of_getElem? (i := 78) rfl)) (hw _ (List.mem_of_getElem? (i := 35) rfl)) (by decide) (by decide)) q21a q21b q21c (g := (mkF m 194 #[.val (.int p1), .val (.int p2), .val (.int (0 : Int32)), .val (.int v4), .val (.int v5), .val (.int v6), .val (.ref b7), .val (.ref b10), .val (.ref b13), .val (.ref b16), .val (.int (1 : Int32)), .val (.ref b20_0)] [(.ref b20_0)])) rfl (by rw [hml]; rfl) (Steps.refl _) (argsL := []) (rest := []) (lenOf pd_16 rfl) rfl (by show 2 * 0 + _ ≤ _; exact Nat.le_of_eq rfl) (hb hby at_194) (fun _ _ => ⟨rfl, rfl, (by decide : 21 + 0 ≤ _), (by decide : 79 + 0 ≤ _)⟩)
    dsimp only [Pt.U, Pt.locs, Pt.cells, Pt.slots] at X21 l21 y21 z21 st21 hQ21
    subst l21 y21 z21
    obtain ⟨rfl, N21q, e21⟩ := hQ21
    have N21 := Fr.app N20 N21q
    refine Go.trans st21 ?_
    show Go p e below _ (T21.setTop (mkF m 199 #[.val (.int p1), .val (.int p2), .val (.int (0 : Int32)), .val (.int v4), .val (.int v5), .val (.int v6), .val (.ref b7), .val (.ref b10), .val (.ref b13), .val (.ref b16), .val (.int (1 : Int32)), .val (.ref b20_0)] [(.int (0 : Int32))]))
    refine Go.step (fun t k => XS.iloadN X21.here hx rfl (hb hby at_199) rfl k) ?_
    show Go p e below _ (T21.setTop (mkF m 200 #[.val (.int p1), .val (.int p2), .val (.int (0 : Int32)), .val (.int v4), .val (.int v5), .val (.int v6), .val (.ref b7), .val (.ref b10), .val (.ref b13), .val (.ref b16), .val (.int (1 : Int32)), .val (.ref b20_0)] [(.int (0 : Int32)), (.int (0 : Int32))]))
    refine Go.step (fun t k => XS.icmpYes X21.here hx rfl (pc0 := 200) (pc' := 205) rfl (hb hby at_200) rfl (teq (rfl : (0 : Int32) = (0 : Int32))).1 (by decide) (by decide) k) ?_
    show Go p e below _ (T21.setTop (mkF m 205 #[.val (.int p1), .val (.int p2), .val (.int (0 : Int32)), .val (.int v4), .val (.int v5), .val (.int v6), .val (.ref b7), .val (.ref b10), .val (.ref b13), .val (.ref b16), .val (.int (1 : Int32)), .val (.ref b20_0)] []))
    refine Go.step (fun t k => XS.iloadN X21.here hx rfl (hb hby at_205) rfl k) ?_
    show Go p e below _ (T21.setTop (mkF m 206 #[.val (.int p1), .val (.int p2), .val (.int (0 : Int32)), .val (.int v4), .val (.int v5), .val (.int v6), .val (.ref b7), .val (.ref b10), .val (.ref b13), .val (.ref b16), .val (.int (1 : Int32)), .val (.ref b20_0)] [(.int (0 : Int32))]))
    refine Go.step (fun t k => XS.iconst X21.here hx rfl (hb hby at_206)  k) ?_
    show Go p e below _ (T21.setTop (mkF m 207 #[.val (.int p1), .val (.int p2), .val (.int (0 : Int32)), .val (.int v4), .val (.int v5), .val (.int v6), .val (.ref b7), .val (.ref b10), .val (.ref b13), .val (.ref b16), .val (.int (1 : Int32)), .val (.ref b20_0)] [(.int (1 : Int32)), (.int (0 : Int32))]))
    refine Go.step (fun t k => XS.icmpYes X21.here hx rfl (pc0 := 207) (pc' := 225) rfl (hb hby at_207) rfl (tlt (by decide : (0 : Int32) < (1 : Int32))).1 (by decide) (by decide) k) ?_
    show Go p e below _ (T21.setTop (mkF m 225 #[.val (.int p1), .val (.int p2), .val (.int (0 : Int32)), .val (.int v4), .val (.int v5), .val (.int v6), .val (.ref b7), .val (.ref b10), .val (.ref b13), .val (.ref b16), .val (.int (1 : Int32)), .val (.ref b20_0)] []))
    refine Go.step (fun t k => XS.iloadN X21.here hx rfl (hb hby at_225) rfl k) ?_
    show Go p e below _ (T21.setTop (mkF m 226 #[.val (.int p1), .val (.int p2), .val (.int (0 : Int32)), .val (.int v4), .val (.int v5), .val (.int v6), .val (.ref b7), .val (.ref b10), .val (.ref b13), .val (.ref b16), .val (.int (1 : Int32)), .val (.ref b20_0)] [(.int (0 : Int32))]))
    refine Go.step (fun t k => XS.iconst X21.here hx rfl (hb hby at_226)  k) ?_
    show Go p e below _ (T21.setTop (mkF m 227 #[.val (.int p1), .val (.int p2), .val (.int (0 : Int32)), .val (.int v4), .val (.int v5), .val (.int v6), .val (.ref b7), .val (.ref b10), .val (.ref b13), .val (.ref b16), .val (.int (1 : Int32)), .val (.ref b20_0)] [(.int (2 : Int32)), (.int (0 : Int32))]))
    refine Go.step (fun t k => XS.icmpYes X21.here hx rfl (pc0 := 227) (pc' := 245) rfl (hb hby at_227) rfl (tlt (by decide : (0 : Int32) < (2 : Int32))).1 (by decide) (by decide) k) ?_
    show Go p e below _ (T21.setTop (mkF m 245 #[.val (.int p1), .val (.int p2), .val (.int (0 : Int32)), .val (.int v4), .val (.int v5), .val (.int v6), .val (.ref b7), .val (.ref b10), .val (.ref b13), .val (.ref b16), .val (.int (1 : Int32)), .val (.ref b20_0)] []))
    refine Go.step (fun t k => XS.iloadN X21.here hx rfl (hb hby at_245) rfl k) ?_
    show Go p e below _ (T21.setTop (mkF m 246 #[.val (.int p1), .val (.int p2), .val (.int (0 : Int32)), .val (.int v4), .val (.int v5), .val (.int v6), .val (.ref b7), .val (.ref b10), .val (.ref b13), .val (.ref b16), .val (.int (1 : Int32)), .val (.ref b20_0)] [(.int (0 : Int32))]))
    refine Go.step (fun t k => XS.iconst X21.here hx rfl (hb hby at_246)  k) ?_
    show Go p e below _ (T21.setTop (mkF m 247 #[.val (.int p1), .val (.int p2), .val (.int (0 : Int32)), .val (.int v4), .val (.int v5), .val (.int v6), .val (.ref b7), .val (.ref b10), .val (.ref b13), .val (.ref b16), .val (.int (1 : Int32)), .val (.ref b20_0)] [(.int (3 : Int32)), (.int (0 : Int32))]))
    refine Go.step (fun t k => XS.icmpYes X21.here hx rfl (pc0 := 247) (pc' := 265) rfl (hb hby at_247) rfl (tlt (by decide : (0 : Int32) < (3 : Int32))).1 (by decide) (by decide) k) ?_
    show Go p e below _ (T21.setTop (mkF m 265 #[.val (.int p1), .val (.int p2), .val (.int (0 : Int32)), .val (.int v4), .val (.int v5), .val (.int v6), .val (.ref b7), .val (.ref b10), .val (.ref b13), .val (.ref b16), .val (.int (1 : Int32)), .val (.ref b20_0)] []))
    refine Go.step (fun t k => XS.iloadN X21.here hx rfl (hb hby at_265) rfl k) ?_
    show Go p e below _ (T21.setTop (mkF m 266 #[.val (.int p1), .val (.int p2), .val (.int (0 : Int32)), .val (.int v4), .val (.int v5), .val (.int v6), .val (.ref b7), .val (.ref b10), .val (.ref b13), .val (.ref b16), .val (.int (1 : Int32)), .val (.ref b20_0)] [(.int (0 : Int32))]))
    refine Go.step (fun t k => XS.iconst X21.here hx rfl (hb hby at_266)  k) ?_
    show Go p e below _ (T21.setTop (mkF m 267 #[.val (.int p1), .val (.int p2), .val (.int (0 : Int32)), .val (.int v4), .val (.int v5), .val (.int v6), .val (.ref b7), .val (.ref b10), .val (.ref b13), .val (.ref b16), .val (.int (1 : Int32)), .val (.ref b20_0)] [(.int (1 : Int32)), (.int (0 : Int32))]))
    refine Go.step (fun t k => XS.icmpYes X21.here hx rfl (pc0 := 267) (pc' := 281) rfl (hb hby at_267) rfl (tlt (by decide : (0 : Int32) < (1 : Int32))).1 (by decide) (by decide) k) ?_
    show Go p e below _ (T21.setTop (mkF m 281 #[.val (.int p1), .val (.int p2), .val (.int (0 : Int32)), .val (.int v4), .val (.int v5), .val (.int v6), .val (.ref b7), .val (.ref b10), .val (.ref b13), .val (.ref b16), .val (.int (1 : Int32)), .val (.ref b20_0)] []))
    refine Go.step (fun t k => XS.iloadN X21.here hx rfl (hb hby at_281) rfl k) ?_
    show Go p e below _ (T21.setTop (mkF m 282 #[.val (.int p1), .val (.int p2), .val (.int (0 : Int32)), .val (.int v4), .val (.int v5), .val (.int v6), .val (.ref b7), .val (.ref b10), .val (.ref b13), .val (.ref b16), .val (.int (1 : Int32)), .val (.ref b20_0)] [(.int (0 : Int32))]))
    refine Go.step (fun t k => XS.iconst X21.here hx rfl (hb hby at_282)  k) ?_
    show Go p e below _ (T21.setTop (mkF m 283 #[.val (.int p1), .val (.int p2), .val (.int (0 : Int32)), .val (.int v4), .val (.int v5), .val (.int v6), .val (.ref b7), .val (.ref b10), .val (.ref b13), .val (.ref b16), .val (.int (1 : Int32)), .val (.ref b20_0)] [(.int (2 : Int32)), (.int (0 : Int32))]))
    refine Go.step (fun t k => XS.icmpYes X21.here hx rfl (pc0 := 283) (pc' := 309) rfl (hb hby at_283) rfl (tlt (by decide : (0 : Int32) < (2 : Int32))).1 (by decide) (by decide) k) ?_
    show Go p e below _ (T21.setTop (mkF m 309 #[.val (.int p1), .val (.int p2), .val (.int (0 : Int32)), .val (.int v4), .val (.int v5), .val (.int v6), .val (.ref b7), .val (.ref b10), .val (.ref b13), .val (.ref b16), .val (.int (1 : Int32)), .val (.ref b20_0)] []))
    refine Go.step (fun t k => XS.iloadN X21.here hx rfl (hb hby at_309) rfl k) ?_
    show Go p e below _ (T21.setTop (mkF m 310 #[.val (.int p1), .val (.int p2), .val (.int (0 : Int32)), .val (.int v4), .val (.int v5), .val (.int v6), .val (.ref b7), .val (.ref b10), .val (.ref b13), .val (.ref b16), .val (.int (1 : Int32)), .val (.ref b20_0)] [(.int (0 : Int32))]))
    refine Go.step (fun t k => XS.iconst X21.here hx rfl (hb hby at_310)  k) ?_
    show Go p e below _ (T21.setTop (mkF m 311 #[.val (.int p1), .val (.int p2), .val (.int (0 : Int32)), .val (.int v4), .val (.int v5), .val (.int v6), .val (.ref b7), .val (.ref b10), .val (.ref b13), .val (.ref b16), .val (.int (1 : Int32)), .val (.ref b20_0)] [(.int (3 : Int32)), (.int (0 : Int32))]))
    refine Go.step (fun t k => XS.icmpYes X21.here hx rfl (pc0 := 311) (pc' := 350) rfl (hb hby at_311) rfl (tlt (by decide : (0 : Int32) < (3 : Int32))).1 (by decide) (by decide) k) ?_
    show Go p e below _ (T21.setTop (mkF m 350 #[.val (.int p1), .val (.int p2), .val (.int (0 : Int32)), .val (.int v4), .val (.int v5), .val (.int v6), .val (.ref b7), .val (.ref b10), .val (.ref b13), .val (.ref b16), .val (.int (1 : Int32)), .val (.ref b20_0)] []))
    refine Go.step (fun t k => XS.iload X21.here hx rfl (hb hby at_350) rfl k) ?_
    show Go p e below _ (T21.setTop (mkF m 352 #[.val (.int p1), .val (.int p2), .val (.int (0 : Int32)), .val (.int v4), .val (.int v5), .val (.int v6), .val (.ref b7), .val (.ref b10), .val (.ref b13), .val (.ref b16), .val (.int (1 : Int32)), .val (.ref b20_0)] [(.int (1 : Int32))]))
    subst hv6
    subst hv5
    subst hv4
    subst hv3
    exact retGN X21 hx Bd.notSynchronized Bd.returns (t := .boolean) (by simp) (z' := (1 : Int32)) rfl (hb hby at_352) ⟨by first | (simp only [f0, if_pos hc19]; done) | rfl | (simp [f0, if_pos hc19]; done), N21⟩ (by decide) (by decide)
  · skip
    by_cases hc22 : v3 = (1 : Int32)
    · rw [hc22]
      show Go p e below _ (T18.setTop (mkF m 98 #[.val (.int p1), .val (.int p2), .val (.int (1 : Int32)), .val (.int v4), .val (.int v5), .val (.int v6), .val (.ref b7), .val (.ref b10), .val (.ref b13), .val (.ref b16), .val (.int (1 : Int32)), .unset] []))
      refine Go.step (fun t k => XS.iloadN X18.here hx rfl (hb hby at_98) rfl k) ?_
      show Go p e below _ (T18.setTop (mkF m 99 #[.val (.int p1), .val (.int p2), .val (.int (1 : Int32)), .val (.int v4), .val (.int v5), .val (.int v6), .val (.ref b7), .val (.ref b10), .val (.ref b13), .val (.ref b16), .val (.int (1 : Int32)), .unset] [(.int (1 : Int32))]))
      refine Go.step (fun t k => XS.iconst X18.here hx rfl (hb hby at_99)  k) ?_
      show Go p e below _ (T18.setTop (mkF m 100 #[.val (.int p1), .val (.int p2), .val (.int (1 : Int32)), .val (.int v4), .val (.int v5), .val (.int v6), .val (.ref b7), .val (.ref b10), .val (.ref b13), .val (.ref b16), .val (.int (1 : Int32)), .unset] [(.int (1 : Int32)), (.int (1 : Int32))]))
      refine Go.step (fun t k => XS.icmpNo X18.here hx rfl (hb hby at_100) rfl (flt (by decide : ¬ ((1 : Int32) < (1 : Int32)))).1 k) ?_
      show Go p e below _ (T18.setTop (mkF m 103 #[.val (.int p1), .val (.int p2), .val (.int (1 : Int32)), .val (.int v4), .val (.int v5), .val (.int v6), .val (.ref b7), .val (.ref b10), .val (.ref b13), .val (.ref b16), .val (.int (1 : Int32)), .unset] []))
      refine Go.step (fun t k => XS.iload X18.here hx rfl (hb hby at_103) rfl k) ?_
      show Go p e below _ (T18.setTop (mkF m 105 #[.val (.int p1), .val (.int p2), .val (.int (1 : Int32)), .val (.int v4), .val (.int v5), .val (.int v6), .val (.ref b7), .val (.ref b10), .val (.ref b13), .val (.ref b16), .val (.int (1 : Int32)), .unset] [(.int (1 : Int32))]))
      refine Go.step (fun t k => XS.ifNo X18.here hx rfl (hb hby at_105) rfl ((if0 _ _).trans (feq (by decide : ¬ ((1 : Int32) = (0 : Int32)))).1) k) ?_
      show Go p e below _ (T18.setTop (mkF m 108 #[.val (.int p1), .val (.int p2), .val (.int (1 : Int32)), .val (.int v4), .val (.int v5), .val (.int v6), .val (.ref b7), .val (.ref b10), .val (.ref b13), .val (.ref b16), .val (.int (1 : Int32)), .unset] []))
      refine Go.step (fun t k => XS.aload X18.here hx rfl (hb hby at_108) rfl rfl k) ?_
      show Go p e below _ (T18.setTop (mkF m 110 #[.val (.int p1), .val (.int p2), .val (.int (1 : Int32)), .val (.int v4), .val (.int v5), .val (.int v6), .val (.ref b7), .val (.ref b10), .val (.ref b13), .val (.ref b16), .val (.int (1 : Int32)), .unset] [(.ref b7)]))
      refine Go.step (fun t k => XS.aload X18.here hx rfl (hb hby at_110) rfl rfl k) ?_
      show Go p e below _ (T18.setTop (mkF m 112 #[.val (.int p1), .val (.int p2), .val (.int (1 : Int32)), .val (.int v4), .val (.int v5), .val (.int v6), .val (.ref b7), .val (.ref b10), .val (.ref b13), .val (.ref b16), .val (.int (1 : Int32)), .unset] [(.ref b10), (.ref b7)]))
      obtain ⟨cq23, kq23, q23a, q23b, q23c⟩ := isOf hZ rfl E_b7_18
      obtain ⟨_, _, ⟨T23, L23, k23, n23⟩, -, X23, ⟨Lc23, hQ23, l23, y23, z23⟩, st23⟩ := X18.virtualBack hx (y := (⟨"com/example/dataflow_to_dispatch/dataflowtodispatch/model/document/XmlElement", "append", "(Lcom/example/dataflow_to_dispatch/dataflowtodispatch/model/document/XmlElement;)Lcom/example/dataflow_to_dispatch/dataflowtodispatch/model/document/XmlElement;"⟩ : MethodName)) (z := (⟨"com/example/dataflow_to_dispatch/dataflowtodispatch/model/document/XmlElement", "append", "(Lcom/example/dataflow_to_dispatch/dataflowtodispatch/model/document/XmlElement;)Lcom/example/dataflow_to_dispatch/dataflowtodispatch/model/document/XmlElement;"⟩ : MethodName)) hown (mvT hZ (hw _ (List.mem_of_getElem? (i := 81) rfl))) (mvT hZ (hw _ (List.mem_of_getElem? (i := 82) rfl))) (notFace_of_selects (args := #[]) (mvT hZ (hw _ (List.mem_of_getElem? (i := 84) rfl)))) (mvT hZ (hw _ (List.mem_of_getElem? (i := 84) rfl))) (mvT hZ (hw _ (List.mem_of_getElem? (i := 83) rfl))) (by decide) (backOf (W := 0) (rm12_n l Z a0 hw [] b7 b10 .null (.ref b11_0) .null .null .null T18.heap n0 Z18 E_b7_18 F_firstChild_b7_18 F_lastChild_b7_18 E_b10_18 F_name_b10_18 F_parent_b10_18 F_previous_b10_18 F_next_b10_18 g_b10 g_b7 ne_b7_b10 (Ne.symm ne_b7_b10)) hZ (hw _ (List.mem_of_getElem? (i := 85) rfl)) (hw _ (List.mem_of_getElem? (i := 2) rfl)) (by decide) (by decide)) q23a q23c (g := (mkF m 112 #[.val (.int p1), .val (.int p2), .val (.int (1 : Int32)), .val (.int v4), .val (.int v5), .val (.int v6), .val (.ref b7), .val (.ref b10), .val (.ref b13), .val (.ref b16), .val (.int (1 : Int32)), .unset] [(.ref b10), (.ref b7)])) rfl (by rw [hml]; rfl) (Steps.refl _) (argsL := [(.ref b10)]) (rest := []) (lenOf pd_17 rfl) rfl (by show 2 * 0 + _ ≤ _; exact Nat.le_of_eq rfl) (hb hby at_112) (fun _ _ => ⟨rfl, rfl, (by decide : 20 + 0 ≤ _), (by decide : 76 + 0 ≤ _)⟩)
      dsimp only [Pt.U, Pt.locs, Pt.cells, Pt.slots] at X23 l23 y23 z23 st23 hQ23
      subst l23 y23 z23
      obtain ⟨rfl, N23q, K23, Q23_0, Q23_1, Q23_2, Q23_3, Q23_4, Q23_5, Q23_6, Q23_7⟩ := hQ23
      have N23 := Fr.app N18 N23q
      have E_b7_23 := E_b7_18.keep K23
      have E_b8_0_23 := E_b8_0_18.keep K23
      have A_b8_1_23 := A_b8_1_18.keep K23 (ninS ne_b8_1_b10 (ninS (Ne.symm ne_b7_b8_1) nin0))
      have F_coder_b8_0_23 := F_coder_b8_0_18.keep K23 (ninS ne_b8_0_b10 (ninS (Ne.symm ne_b7_b8_0) nin0))
      have F_value_b8_0_23 := F_value_b8_0_18.keep K23 (ninS ne_b8_0_b10 (ninS (Ne.symm ne_b7_b8_0) nin0))
      have E_b10_23 := E_b10_18.keep K23
      have E_b11_0_23 := E_b11_0_18.keep K23
      have A_b11_1_23 := A_b11_1_18.keep K23 (ninS (Ne.symm ne_b10_b11_1) (ninS (Ne.symm ne_b7_b11_1) nin0))
      have F_coder_b11_0_23 := F_coder_b11_0_18.keep K23 (ninS (Ne.symm ne_b10_b11_0) (ninS (Ne.symm ne_b7_b11_0) nin0))
      have F_value_b11_0_23 := F_value_b11_0_18.keep K23 (ninS (Ne.symm ne_b10_b11_0) (ninS (Ne.symm ne_b7_b11_0) nin0))
      have E_b13_23 := E_b13_18.keep K23
      have E_b14_0_23 := E_b14_0_18.keep K23
      have A_b14_1_23 := A_b14_1_18.keep K23 (ninS (Ne.symm ne_b10_b14_1) (ninS (Ne.symm ne_b7_b14_1) nin0))
      have F_coder_b14_0_23 := F_coder_b14_0_18.keep K23 (ninS (Ne.symm ne_b10_b14_0) (ninS (Ne.symm ne_b7_b14_0) nin0))
      have F_value_b14_0_23 := F_value_b14_0_18.keep K23 (ninS (Ne.symm ne_b10_b14_0) (ninS (Ne.symm ne_b7_b14_0) nin0))
      have F_parent_b13_23 := F_parent_b13_18.keep K23 (ninS (Ne.symm ne_b10_b13) (ninS (Ne.symm ne_b7_b13) nin0))
      have F_previous_b13_23 := F_previous_b13_18.keep K23 (ninS (Ne.symm ne_b10_b13) (ninS (Ne.symm ne_b7_b13) nin0))
      have F_next_b13_23 := F_next_b13_18.keep K23 (ninS (Ne.symm ne_b10_b13) (ninS (Ne.symm ne_b7_b13) nin0))
      have F_firstChild_b13_23 := F_firstChild_b13_18.keep K23 (ninS (Ne.symm ne_b10_b13) (ninS (Ne.symm ne_b7_b13) nin0))
      have F_lastChild_b13_23 := F_lastChild_b13_18.keep K23 (ninS (Ne.symm ne_b10_b13) (ninS (Ne.symm ne_b7_b13) nin0))
      have F_name_b13_23 := F_name_b13_18.keep K23 (ninS (Ne.symm ne_b10_b13) (ninS (Ne.symm ne_b7_b13) nin0))
      have E_b16_23 := Q18_5.keep K23
      have E_b17_0_23 := E_b17_0_18.keep K23
      have A_b17_1_23 := A_b17_1_18.keep K23 (ninS (Ne.symm ne_b10_b17_1) (ninS (Ne.symm ne_b7_b17_1) nin0))
      have F_coder_b17_0_23 := F_coder_b17_0_18.keep K23 (ninS (Ne.symm ne_b10_b17_0) (ninS (Ne.symm ne_b7_b17_0) nin0))
      have F_value_b17_0_23 := F_value_b17_0_18.keep K23 (ninS (Ne.symm ne_b10_b17_0) (ninS (Ne.symm ne_b7_b17_0) nin0))
      have F_parent_b16_23 := Q18_0.keep K23 (ninS (Ne.symm ne_b10_b16) (ninS (Ne.symm ne_b7_b16) nin0))
      have F_previous_b16_23 := Q18_1.keep K23 (ninS (Ne.symm ne_b10_b16) (ninS (Ne.symm ne_b7_b16) nin0))
      have F_next_b16_23 := Q18_2.keep K23 (ninS (Ne.symm ne_b10_b16) (ninS (Ne.symm ne_b7_b16) nin0))
      have F_firstChild_b16_23 := Q18_3.keep K23 (ninS (Ne.symm ne_b10_b16) (ninS (Ne.symm ne_b7_b16) nin0))
      have F_lastChild_b16_23 := Q18_4.keep K23 (ninS (Ne.symm ne_b10_b16) (ninS (Ne.symm ne_b7_b16) nin0))
      have F_name_b16_23 := Q18_6.keep K23 (ninS (Ne.symm ne_b10_b16) (ninS (Ne.symm ne_b7_b16) nin0))
      have O23 := O18.keep K23 (allS g_b10 (allS g_b7 all0))
      have Z23 := Nat.le_trans Z18 K23.1
      have KK23 : Keep h0 T23.heap [] := KK18.trans K23 (allS (Or.inr sz_b10) (allS (Or.inr sz_b7) all0))
      clear E_b7_18 E_b8_0_18 A_b8_1_18 F_coder_b8_0_18 F_value_b8_0_18 E_b10_18 E_b11_0_18 A_b11_1_18 F_coder_b11_0_18 F_value_b11_0_18 E_b13_18 E_b14_0_18 A_b14_1_18 F_coder_b14_0_18 F_value_b14_0_18 F_parent_b13_18 F_previous_b13_18 F_next_b13_18 F_firstChild_b13_18 F_lastChild_b13_18 F_name_b13_18 Q18_5 E_b17_0_18 A_b17_1_18 F_coder_b17_0_18 F_value_b17_0_18 Q18_0 Q18_1 Q18_2 Q18_3 Q18_4 Q18_6 O18 Z18 KK18 K23
      refine Go.trans st23 ?_
      show Go p e below _ (T23.setTop (mkF m 115 #[.val (.int p1), .val (.int p2), .val (.int (1 : Int32)), .val (.int v4), .val (.int v5), .val (.int v6), .val (.ref b7), .val (.ref b10), .val (.ref b13), .val (.ref b16), .val (.int (1 : Int32)), .unset] [(.ref b10)]))
      refine Go.step (fun t k => XS.aload X23.here hx rfl (hb hby at_115) rfl rfl k) ?_
      show Go p e below _ (T23.setTop (mkF m 117 #[.val (.int p1), .val (.int p2), .val (.int (1 : Int32)), .val (.int v4), .val (.int v5), .val (.int v6), .val (.ref b7), .val (.ref b10), .val (.ref b13), .val (.ref b16), .val (.int (1 : Int32)), .unset] [(.ref b10), (.ref b10)]))
      refine Go.step (fun t k => Jvm.RoadKit.acmp (g := (mkF m 117 #[.val (.int p1), .val (.int p2), .val (.int (1 : Int32)), .val (.int v4), .val (.int v5), .val (.int v6), .val (.ref b7), .val (.ref b10), .val (.ref b13), .val (.ref b16), .val (.int (1 : Int32)), .unset] [(.ref b10), (.ref b10)])) X23 hx rfl rfl rfl (pc0 := 117) (pc' := 120) (same := true) rfl (hb hby at_117) rfl (decide_eq_true rfl) (by decide) (by decide) k) ?_
      show Go p e below _ (T23.setTop (mkF m 120 #[.val (.int p1), .val (.int p2), .val (.int (1 : Int32)), .val (.int v4), .val (.int v5), .val (.int v6), .val (.ref b7), .val (.ref b10), .val (.ref b13), .val (.ref b16), .val (.int (1 : Int32)), .unset] []))
      refine Go.step (fun t k => XS.iconst X23.here hx rfl (hb hby at_120)  k) ?_
      show Go p e below _ (T23.setTop (mkF m 121 #[.val (.int p1), .val (.int p2), .val (.int (1 : Int32)), .val (.int v4), .val (.int v5), .val (.int v6), .val (.ref b7), .val (.ref b10), .val (.ref b13), .val (.ref b16), .val (.int (1 : Int32)), .unset] [(.int (1 : Int32))]))
      refine Go.step (fun t k => XS.goto X23.here hx rfl (pc0 := 121) (pc' := 125) rfl (hb hby at_121) (by decide) (by decide) k) ?_
      show Go p e below _ (T23.setTop (mkF m 125 #[.val (.int p1), .val (.int p2), .val (.int (1 : Int32)), .val (.int v4), .val (.int v5), .val (.int v6), .val (.ref b7), .val (.ref b10), .val (.ref b13), .val (.ref b16), .val (.int (1 : Int32)), .unset] [(.int (1 : Int32))]))
      refine Go.step (fun t k => XS.istore X23.here hx rfl (hb hby at_125) rfl (l' := #[.val (.int p1), .val (.int p2), .val (.int (1 : Int32)), .val (.int v4), .val (.int v5), .val (.int v6), .val (.ref b7), .val (.ref b10), .val (.ref b13), .val (.ref b16), .val (.int (1 : Int32)), .unset]) rfl k) ?_
      show Go p e below _ (T23.setTop (mkF m 127 #[.val (.int p1), .val (.int p2), .val (.int (1 : Int32)), .val (.int v4), .val (.int v5), .val (.int v6), .val (.ref b7), .val (.ref b10), .val (.ref b13), .val (.ref b16), .val (.int (1 : Int32)), .unset] []))
      refine Go.step (fun t k => XS.iloadN X23.here hx rfl (hb hby at_127) rfl k) ?_
      show Go p e below _ (T23.setTop (mkF m 128 #[.val (.int p1), .val (.int p2), .val (.int (1 : Int32)), .val (.int v4), .val (.int v5), .val (.int v6), .val (.ref b7), .val (.ref b10), .val (.ref b13), .val (.ref b16), .val (.int (1 : Int32)), .unset] [(.int (1 : Int32))]))
      refine Go.step (fun t k => XS.iconst X23.here hx rfl (hb hby at_128)  k) ?_
      show Go p e below _ (T23.setTop (mkF m 129 #[.val (.int p1), .val (.int p2), .val (.int (1 : Int32)), .val (.int v4), .val (.int v5), .val (.int v6), .val (.ref b7), .val (.ref b10), .val (.ref b13), .val (.ref b16), .val (.int (1 : Int32)), .unset] [(.int (2 : Int32)), (.int (1 : Int32))]))
      refine Go.step (fun t k => XS.icmpYes X23.here hx rfl (pc0 := 129) (pc' := 156) rfl (hb hby at_129) rfl (tlt (by decide : (1 : Int32) < (2 : Int32))).1 (by decide) (by decide) k) ?_
      show Go p e below _ (T23.setTop (mkF m 156 #[.val (.int p1), .val (.int p2), .val (.int (1 : Int32)), .val (.int v4), .val (.int v5), .val (.int v6), .val (.ref b7), .val (.ref b10), .val (.ref b13), .val (.ref b16), .val (.int (1 : Int32)), .unset] []))
      refine Go.step (fun t k => XS.iloadN X23.here hx rfl (hb hby at_156) rfl k) ?_
      show Go p e below _ (T23.setTop (mkF m 157 #[.val (.int p1), .val (.int p2), .val (.int (1 : Int32)), .val (.int v4), .val (.int v5), .val (.int v6), .val (.ref b7), .val (.ref b10), .val (.ref b13), .val (.ref b16), .val (.int (1 : Int32)), .unset] [(.int (1 : Int32))]))
      refine Go.step (fun t k => XS.iconst X23.here hx rfl (hb hby at_157)  k) ?_
      show Go p e below _ (T23.setTop (mkF m 158 #[.val (.int p1), .val (.int p2), .val (.int (1 : Int32)), .val (.int v4), .val (.int v5), .val (.int v6), .val (.ref b7), .val (.ref b10), .val (.ref b13), .val (.ref b16), .val (.int (1 : Int32)), .unset] [(.int (3 : Int32)), (.int (1 : Int32))]))
      refine Go.step (fun t k => XS.icmpYes X23.here hx rfl (pc0 := 158) (pc' := 185) rfl (hb hby at_158) rfl (tlt (by decide : (1 : Int32) < (3 : Int32))).1 (by decide) (by decide) k) ?_
      show Go p e below _ (T23.setTop (mkF m 185 #[.val (.int p1), .val (.int p2), .val (.int (1 : Int32)), .val (.int v4), .val (.int v5), .val (.int v6), .val (.ref b7), .val (.ref b10), .val (.ref b13), .val (.ref b16), .val (.int (1 : Int32)), .unset] []))
      refine Go.step (fun t k => XS.aload X23.here hx rfl (hb hby at_185) rfl rfl k) ?_
      show Go p e below _ (T23.setTop (mkF m 187 #[.val (.int p1), .val (.int p2), .val (.int (1 : Int32)), .val (.int v4), .val (.int v5), .val (.int v6), .val (.ref b7), .val (.ref b10), .val (.ref b13), .val (.ref b16), .val (.int (1 : Int32)), .unset] [(.ref b7)]))
      obtain ⟨cq24, kq24, q24a, q24b, q24c⟩ := isOf hZ rfl Q23_0
      obtain ⟨_, _, ⟨T24, L24, k24, n24⟩, -, X24, ⟨Lc24, hQ24, l24, y24, z24⟩, st24⟩ := X23.virtualBack hx (y := (⟨"com/example/dataflow_to_dispatch/dataflowtodispatch/model/document/XmlElement", "children", "()Ljava/util/List;"⟩ : MethodName)) (z := (⟨"com/example/dataflow_to_dispatch/dataflowtodispatch/model/document/XmlElement", "children", "()Ljava/util/List;"⟩ : MethodName)) hown (mvT hZ (hw _ (List.mem_of_getElem? (i := 63) rfl))) (mvT hZ (hw _ (List.mem_of_getElem? (i := 64) rfl))) (notFace_of_selects (args := #[]) (mvT hZ (hw _ (List.mem_of_getElem? (i := 66) rfl)))) (mvT hZ (hw _ (List.mem_of_getElem? (i := 66) rfl))) (mvT hZ (hw _ (List.mem_of_getElem? (i := 65) rfl))) (by decide) (backOf (W := 0) (rm10_1 l Z a0 hw [] b7 b10 oD T23.heap n0 Z23 Q23_3 Q23_1 Q23_7 O23 S_DEFAULTCAPACITY_EMPTY_ELEMENTDATA A_DEFAULTCAPACITY_EMPTY_ELEMENTDATA) hZ (hw _ (List.mem_of_getElem? (i := 67) rfl)) (hw _ (List.mem_of_getElem? (i := 2) rfl)) (by decide) (by decide)) q24a q24c (g := (mkF m 187 #[.val (.int p1), .val (.int p2), .val (.int (1 : Int32)), .val (.int v4), .val (.int v5), .val (.int v6), .val (.ref b7), .val (.ref b10), .val (.ref b13), .val (.ref b16), .val (.int (1 : Int32)), .unset] [(.ref b7)])) rfl (by rw [hml]; rfl) (Steps.refl _) (argsL := []) (rest := []) (lenOf pd_15 rfl) rfl (by show 2 * 0 + _ ≤ _; exact Nat.le_of_eq rfl) (hb hby at_187) (fun _ _ => ⟨rfl, rfl, (by decide : 20 + 2 ≤ _), (by decide : 76 + 13 ≤ _)⟩)
      dsimp only [Pt.U, Pt.locs, Pt.cells, Pt.slots] at X24 l24 y24 z24 st24 hQ24
      subst l24 y24 z24
      obtain ⟨b24_0, b24_1, rfl, N24q, K24, sz24_0, sz24_1, Q24_0, Q24_1, Q24_2, Q24_3, Q24_4⟩ := hQ24
      have N24 := Fr.app N23 N24q
      have g_b24_0 : n0 ≤ b24_0 := Nat.le_trans Z23 sz24_0
      have sz_b24_0 : h0.size ≤ b24_0 := Nat.le_trans KK23.1 sz24_0
      have ne_b7_b24_0 : b7 ≠ b24_0 := Nat.ne_of_lt (Nat.lt_of_lt_of_le Q23_0.lt sz24_0)
      have ne_b8_0_b24_0 : b8_0 ≠ b24_0 := Nat.ne_of_lt (Nat.lt_of_lt_of_le E_b8_0_23.lt sz24_0)
      have ne_b8_1_b24_0 : b8_1 ≠ b24_0 := Nat.ne_of_lt (Nat.lt_of_lt_of_le A_b8_1_23.lt sz24_0)
      have ne_b10_b24_0 : b10 ≠ b24_0 := Nat.ne_of_lt (Nat.lt_of_lt_of_le Q23_1.lt sz24_0)
      have ne_b11_0_b24_0 : b11_0 ≠ b24_0 := Nat.ne_of_lt (Nat.lt_of_lt_of_le E_b11_0_23.lt sz24_0)
      have ne_b11_1_b24_0 : b11_1 ≠ b24_0 := Nat.ne_of_lt (Nat.lt_of_lt_of_le A_b11_1_23.lt sz24_0)
      have ne_b13_b24_0 : b13 ≠ b24_0 := Nat.ne_of_lt (Nat.lt_of_lt_of_le E_b13_23.lt sz24_0)
      have ne_b14_0_b24_0 : b14_0 ≠ b24_0 := Nat.ne_of_lt (Nat.lt_of_lt_of_le E_b14_0_23.lt sz24_0)
      have ne_b14_1_b24_0 : b14_1 ≠ b24_0 := Nat.ne_of_lt (Nat.lt_of_lt_of_le A_b14_1_23.lt sz24_0)
      have ne_b16_b24_0 : b16 ≠ b24_0 := Nat.ne_of_lt (Nat.lt_of_lt_of_le E_b16_23.lt sz24_0)
      have ne_b17_0_b24_0 : b17_0 ≠ b24_0 := Nat.ne_of_lt (Nat.lt_of_lt_of_le E_b17_0_23.lt sz24_0)
      have ne_b17_1_b24_0 : b17_1 ≠ b24_0 := Nat.ne_of_lt (Nat.lt_of_lt_of_le A_b17_1_23.lt sz24_0)
      have g_b24_1 : n0 ≤ b24_1 := Nat.le_trans Z23 sz24_1
      have sz_b24_1 : h0.size ≤ b24_1 := Nat.le_trans KK23.1 sz24_1
      have ne_b7_b24_1 : b7 ≠ b24_1 := Nat.ne_of_lt (Nat.lt_of_lt_of_le Q23_0.lt sz24_1)
      have ne_b8_0_b24_1 : b8_0 ≠ b24_1 := Nat.ne_of_lt (Nat.lt_of_lt_of_le E_b8_0_23.lt sz24_1)
      have ne_b8_1_b24_1 : b8_1 ≠ b24_1 := Nat.ne_of_lt (Nat.lt_of_lt_of_le A_b8_1_23.lt sz24_1)
      have ne_b10_b24_1 : b10 ≠ b24_1 := Nat.ne_of_lt (Nat.lt_of_lt_of_le Q23_1.lt sz24_1)
      have ne_b11_0_b24_1 : b11_0 ≠ b24_1 := Nat.ne_of_lt (Nat.lt_of_lt_of_le E_b11_0_23.lt sz24_1)
      have ne_b11_1_b24_1 : b11_1 ≠ b24_1 := Nat.ne_of_lt (Nat.lt_of_lt_of_le A_b11_1_23.lt sz24_1)
      have ne_b13_b24_1 : b13 ≠ b24_1 := Nat.ne_of_lt (Nat.lt_of_lt_of_le E_b13_23.lt sz24_1)
      have ne_b14_0_b24_1 : b14_0 ≠ b24_1 := Nat.ne_of_lt (Nat.lt_of_lt_of_le E_b14_0_23.lt sz24_1)
      have ne_b14_1_b24_1 : b14_1 ≠ b24_1 := Nat.ne_of_lt (Nat.lt_of_lt_of_le A_b14_1_23.lt sz24_1)
      have ne_b16_b24_1 : b16 ≠ b24_1 := Nat.ne_of_lt (Nat.lt_of_lt_of_le E_b16_23.lt sz24_1)
      have ne_b17_0_b24_1 : b17_0 ≠ b24_1 := Nat.ne_of_lt (Nat.lt_of_lt_of_le E_b17_0_23.lt sz24_1)
      have ne_b17_1_b24_1 : b17_1 ≠ b24_1 := Nat.ne_of_lt (Nat.lt_of_lt_of_le A_b17_1_23.lt sz24_1)
      have E_b7_24 := Q23_0.keep K24
      have E_b8_0_24 := E_b8_0_23.keep K24
      have A_b8_1_24 := A_b8_1_23.keep K24 nin0
      have F_coder_b8_0_24 := F_coder_b8_0_23.keep K24 nin0
      have F_value_b8_0_24 := F_value_b8_0_23.keep K24 nin0
      have E_b10_24 := Q23_1.keep K24
      have E_b11_0_24 := E_b11_0_23.keep K24
      have A_b11_1_24 := A_b11_1_23.keep K24 nin0
      have F_coder_b11_0_24 := F_coder_b11_0_23.keep K24 nin0
      have F_value_b11_0_24 := F_value_b11_0_23.keep K24 nin0
      have E_b13_24 := E_b13_23.keep K24
      have E_b14_0_24 := E_b14_0_23.keep K24
      have A_b14_1_24 := A_b14_1_23.keep K24 nin0
      have F_coder_b14_0_24 := F_coder_b14_0_23.keep K24 nin0
      have F_value_b14_0_24 := F_value_b14_0_23.keep K24 nin0
      have F_parent_b13_24 := F_parent_b13_23.keep K24 nin0
      have F_previous_b13_24 := F_previous_b13_23.keep K24 nin0
      have F_next_b13_24 := F_next_b13_23.keep K24 nin0
      have F_firstChild_b13_24 := F_firstChild_b13_23.keep K24 nin0
      have F_lastChild_b13_24 := F_lastChild_b13_23.keep K24 nin0
      have F_name_b13_24 := F_name_b13_23.keep K24 nin0
      have E_b16_24 := E_b16_23.keep K24
      have E_b17_0_24 := E_b17_0_23.keep K24
      have A_b17_1_24 := A_b17_1_23.keep K24 nin0
      have F_coder_b17_0_24 := F_coder_b17_0_23.keep K24 nin0
      have F_value_b17_0_24 := F_value_b17_0_23.keep K24 nin0
      have F_parent_b16_24 := F_parent_b16_23.keep K24 nin0
      have F_previous_b16_24 := F_previous_b16_23.keep K24 nin0
      have F_next_b16_24 := F_next_b16_23.keep K24 nin0
      have F_firstChild_b16_24 := F_firstChild_b16_23.keep K24 nin0
      have F_lastChild_b16_24 := F_lastChild_b16_23.keep K24 nin0
      have F_name_b16_24 := F_name_b16_23.keep K24 nin0
      have F_lastChild_b7_24 := Q23_2.keep K24 nin0
      have F_firstChild_b7_24 := Q23_3.keep K24 nin0
      have F_name_b10_24 := Q23_4.keep K24 nin0
      have F_parent_b10_24 := Q23_5.keep K24 nin0
      have F_previous_b10_24 := Q23_6.keep K24 nin0
      have F_next_b10_24 := Q23_7.keep K24 nin0
      have O24 := O23.keep K24 all0
      have Z24 := Nat.le_trans Z23 K24.1
      have KK24 : Keep h0 T24.heap [] := KK23.trans K24 all0
      clear Q23_0 E_b8_0_23 A_b8_1_23 F_coder_b8_0_23 F_value_b8_0_23 Q23_1 E_b11_0_23 A_b11_1_23 F_coder_b11_0_23 F_value_b11_0_23 E_b13_23 E_b14_0_23 A_b14_1_23 F_coder_b14_0_23 F_value_b14_0_23 F_parent_b13_23 F_previous_b13_23 F_next_b13_23 F_firstChild_b13_23 F_lastChild_b13_23 F_name_b13_23 E_b16_23 E_b17_0_23 A_b17_1_23 F_coder_b17_0_23 F_value_b17_0_23 F_parent_b16_23 F_previous_b16_23 F_next_b16_23 F_firstChild_b16_23 F_lastChild_b16_23 F_name_b16_23 Q23_2 Q23_3 Q23_4 Q23_5 Q23_6 Q23_7 O23 Z23 KK23 K24
      refine Go.trans st24 ?_
      show Go p e below _ (T24.setTop (mkF m 190 #[.val (.int p1), .val (.int p2), .val (.int (1 : Int32)), .val (.int v4), .val (.int v5), .val (.int v6), .val (.ref b7), .val (.ref b10), .val (.ref b13), .val (.ref b16), .val (.int (1 : Int32)), .unset] [(.ref b24_0)]))
      refine Go.step (fun t k => XS.astore X24.here hx rfl (hb hby at_190) rfl rfl (l' := #[.val (.int p1), .val (.int p2), .val (.int (1 : Int32)), .val (.int v4), .val (.int v5), .val (.int v6), .val (.ref b7), .val (.ref b10), .val (.ref b13), .val (.ref b16), .val (.int (1 : Int32)), .val (.ref b24_0)]) rfl k) ?_
      show Go p e below _ (T24.setTop (mkF m 192 #[.val (.int p1), .val (.int p2), .val (.int (1 : Int32)), .val (.int v4), .val (.int v5), .val (.int v6), .val (.ref b7), .val (.ref b10), .val (.ref b13), .val (.ref b16), .val (.int (1 : Int32)), .val (.ref b24_0)] []))
      refine Go.step (fun t k => XS.aload X24.here hx rfl (hb hby at_192) rfl rfl k) ?_
      show Go p e below _ (T24.setTop (mkF m 194 #[.val (.int p1), .val (.int p2), .val (.int (1 : Int32)), .val (.int v4), .val (.int v5), .val (.int v6), .val (.ref b7), .val (.ref b10), .val (.ref b13), .val (.ref b16), .val (.int (1 : Int32)), .val (.ref b24_0)] [(.ref b24_0)]))
      obtain ⟨cq25, kq25, q25a, q25b, q25c⟩ := isOf hZ rfl Q24_0
      obtain ⟨_, _, ⟨T25, L25, k25, n25⟩, -, X25, ⟨Lc25, hQ25, l25, y25, z25⟩, st25⟩ := X24.interfaceBack hx (xi := (⟨"java/util/List", "size", "()I"⟩ : MethodName)) (y := (⟨"java/util/ArrayList", "size", "()I"⟩ : MethodName)) hown (mvT hZ (hw _ (List.mem_of_getElem? (i := 70) rfl))) (mvT hZ (hw _ (List.mem_of_getElem? (i := 71) rfl))) (mvT hZ (hw _ (List.mem_of_getElem? (i := 72) rfl))) (mvT hZ (hw _ (List.mem_of_getElem? (i := 73) rfl))) (mvT hZ (hw _ (List.mem_of_getElem? (i := 74) rfl))) (mvT hZ (hw _ (List.mem_of_getElem? (i := 75) rfl))) (mvT hZ (hw _ (List.mem_of_getElem? (i := 76) rfl))) (mvT hZ (hw _ (List.mem_of_getElem? (i := 77) rfl))) (by decide) (backOf (W := 0) (rm11 l Z a0 hw [] b24_0 (1 : Int32) T24.heap n0 Z24 Q24_2) hZ (hw _ (List.mem_of_getElem? (i := 78) rfl)) (hw _ (List.mem_of_getElem? (i := 35) rfl)) (by decide) (by decide)) q25a q25b q25c (g := (mkF m 194 #[.val (.int p1), .val (.int p2), .val (.int (1 : Int32)), .val (.int v4), .val (.int v5), .val (.int v6), .val (.ref b7), .val (.ref b10), .val (.ref b13), .val (.ref b16), .val (.int (1 : Int32)), .val (.ref b24_0)] [(.ref b24_0)])) rfl (by rw [hml]; rfl) (Steps.refl _) (argsL := []) (rest := []) (lenOf pd_16 rfl) rfl (by show 2 * 0 + _ ≤ _; exact Nat.le_of_eq rfl) (hb hby at_194) (fun _ _ => ⟨rfl, rfl, (by decide : 22 + 0 ≤ _), (by decide : 89 + 0 ≤ _)⟩)
      dsimp only [Pt.U, Pt.locs, Pt.cells, Pt.slots] at X25 l25 y25 z25 st25 hQ25
      subst l25 y25 z25
      obtain ⟨rfl, N25q, e25⟩ := hQ25
      have N25 := Fr.app N24 N25q
      refine Go.trans st25 ?_
      show Go p e below _ (T25.setTop (mkF m 199 #[.val (.int p1), .val (.int p2), .val (.int (1 : Int32)), .val (.int v4), .val (.int v5), .val (.int v6), .val (.ref b7), .val (.ref b10), .val (.ref b13), .val (.ref b16), .val (.int (1 : Int32)), .val (.ref b24_0)] [(.int (1 : Int32))]))
      refine Go.step (fun t k => XS.iloadN X25.here hx rfl (hb hby at_199) rfl k) ?_
      show Go p e below _ (T25.setTop (mkF m 200 #[.val (.int p1), .val (.int p2), .val (.int (1 : Int32)), .val (.int v4), .val (.int v5), .val (.int v6), .val (.ref b7), .val (.ref b10), .val (.ref b13), .val (.ref b16), .val (.int (1 : Int32)), .val (.ref b24_0)] [(.int (1 : Int32)), (.int (1 : Int32))]))
      refine Go.step (fun t k => XS.icmpYes X25.here hx rfl (pc0 := 200) (pc' := 205) rfl (hb hby at_200) rfl (teq (rfl : (1 : Int32) = (1 : Int32))).1 (by decide) (by decide) k) ?_
      show Go p e below _ (T25.setTop (mkF m 205 #[.val (.int p1), .val (.int p2), .val (.int (1 : Int32)), .val (.int v4), .val (.int v5), .val (.int v6), .val (.ref b7), .val (.ref b10), .val (.ref b13), .val (.ref b16), .val (.int (1 : Int32)), .val (.ref b24_0)] []))
      refine Go.step (fun t k => XS.iloadN X25.here hx rfl (hb hby at_205) rfl k) ?_
      show Go p e below _ (T25.setTop (mkF m 206 #[.val (.int p1), .val (.int p2), .val (.int (1 : Int32)), .val (.int v4), .val (.int v5), .val (.int v6), .val (.ref b7), .val (.ref b10), .val (.ref b13), .val (.ref b16), .val (.int (1 : Int32)), .val (.ref b24_0)] [(.int (1 : Int32))]))
      refine Go.step (fun t k => XS.iconst X25.here hx rfl (hb hby at_206)  k) ?_
      show Go p e below _ (T25.setTop (mkF m 207 #[.val (.int p1), .val (.int p2), .val (.int (1 : Int32)), .val (.int v4), .val (.int v5), .val (.int v6), .val (.ref b7), .val (.ref b10), .val (.ref b13), .val (.ref b16), .val (.int (1 : Int32)), .val (.ref b24_0)] [(.int (1 : Int32)), (.int (1 : Int32))]))
      refine Go.step (fun t k => XS.icmpNo X25.here hx rfl (hb hby at_207) rfl (flt (by decide : ¬ ((1 : Int32) < (1 : Int32)))).1 k) ?_
      show Go p e below _ (T25.setTop (mkF m 210 #[.val (.int p1), .val (.int p2), .val (.int (1 : Int32)), .val (.int v4), .val (.int v5), .val (.int v6), .val (.ref b7), .val (.ref b10), .val (.ref b13), .val (.ref b16), .val (.int (1 : Int32)), .val (.ref b24_0)] []))
      refine Go.step (fun t k => XS.aload X25.here hx rfl (hb hby at_210) rfl rfl k) ?_
      show Go p e below _ (T25.setTop (mkF m 212 #[.val (.int p1), .val (.int p2), .val (.int (1 : Int32)), .val (.int v4), .val (.int v5), .val (.int v6), .val (.ref b7), .val (.ref b10), .val (.ref b13), .val (.ref b16), .val (.int (1 : Int32)), .val (.ref b24_0)] [(.ref b24_0)]))
      refine Go.step (fun t k => XS.iconst X25.here hx rfl (hb hby at_212)  k) ?_
      show Go p e below _ (T25.setTop (mkF m 213 #[.val (.int p1), .val (.int p2), .val (.int (1 : Int32)), .val (.int v4), .val (.int v5), .val (.int v6), .val (.ref b7), .val (.ref b10), .val (.ref b13), .val (.ref b16), .val (.int (1 : Int32)), .val (.ref b24_0)] [(.int (0 : Int32)), (.ref b24_0)]))
      obtain ⟨cq26, kq26, q26a, q26b, q26c⟩ := isOf hZ e25 Q24_0
      obtain ⟨_, _, ⟨T26, L26, k26, n26⟩, -, X26, ⟨Lc26, hQ26, l26, y26, z26⟩, st26⟩ := X25.interfaceBack hx (xi := (⟨"java/util/List", "get", "(I)Ljava/lang/Object;"⟩ : MethodName)) (y := (⟨"java/util/ArrayList", "get", "(I)Ljava/lang/Object;"⟩ : MethodName)) hown (mvT hZ (hw _ (List.mem_of_getElem? (i := 130) rfl))) (mvT hZ (hw _ (List.mem_of_getElem? (i := 131) rfl))) (mvT hZ (hw _ (List.mem_of_getElem? (i := 132) rfl))) (mvT hZ (hw _ (List.mem_of_getElem? (i := 133) rfl))) (mvT hZ (hw _ (List.mem_of_getElem? (i := 134) rfl))) (mvT hZ (hw _ (List.mem_of_getElem? (i := 135) rfl))) (mvT hZ (hw _ (List.mem_of_getElem? (i := 136) rfl))) (mvT hZ (hw _ (List.mem_of_getElem? (i := 77) rfl))) (by decide) (backOf (W := 0) (rm19_1_0 l Z a0 hw [] b24_0 b24_1 b10 T24.heap n0 Z24 Q24_1 Q24_4 Q24_0 Q24_2) hZ (hw _ (List.mem_of_getElem? (i := 137) rfl)) (hw _ (List.mem_of_getElem? (i := 35) rfl)) (by decide) (by decide)) q26a q26b q26c (g := (mkF m 213 #[.val (.int p1), .val (.int p2), .val (.int (1 : Int32)), .val (.int v4), .val (.int v5), .val (.int v6), .val (.ref b7), .val (.ref b10), .val (.ref b13), .val (.ref b16), .val (.int (1 : Int32)), .val (.ref b24_0)] [(.int (0 : Int32)), (.ref b24_0)])) rfl (by rw [hml]; rfl) (Steps.refl _) (argsL := [(.int (0 : Int32))]) (rest := []) (lenOf pd_10 rfl) rfl (by show 2 * 0 + _ ≤ _; exact Nat.le_of_eq rfl) (hb hby at_213) (fun _ _ => ⟨rfl, e25, (by decide : 22 + 0 ≤ _), (by decide : 89 + 0 ≤ _)⟩)
      dsimp only [Pt.U, Pt.locs, Pt.cells, Pt.slots] at X26 l26 y26 z26 st26 hQ26
      subst l26 y26 z26
      obtain ⟨rfl, N26q, e26⟩ := hQ26
      have N26 := Fr.app N25 N26q
      refine Go.trans st26 ?_
      show Go p e below _ (T26.setTop (mkF m 218 #[.val (.int p1), .val (.int p2), .val (.int (1 : Int32)), .val (.int v4), .val (.int v5), .val (.int v6), .val (.ref b7), .val (.ref b10), .val (.ref b13), .val (.ref b16), .val (.int (1 : Int32)), .val (.ref b24_0)] [(.ref b10)]))
      refine Go.step (fun t k => XS.aload X26.here hx rfl (hb hby at_218) rfl rfl k) ?_
      show Go p e below _ (T26.setTop (mkF m 220 #[.val (.int p1), .val (.int p2), .val (.int (1 : Int32)), .val (.int v4), .val (.int v5), .val (.int v6), .val (.ref b7), .val (.ref b10), .val (.ref b13), .val (.ref b16), .val (.int (1 : Int32)), .val (.ref b24_0)] [(.ref b10), (.ref b10)]))
      refine Go.step (fun t k => Jvm.RoadKit.acmp (g := (mkF m 220 #[.val (.int p1), .val (.int p2), .val (.int (1 : Int32)), .val (.int v4), .val (.int v5), .val (.int v6), .val (.ref b7), .val (.ref b10), .val (.ref b13), .val (.ref b16), .val (.int (1 : Int32)), .val (.ref b24_0)] [(.ref b10), (.ref b10)])) X26 hx rfl rfl rfl (pc0 := 220) (pc' := 225) (same := true) rfl (hb hby at_220) rfl (decide_eq_true rfl) (by decide) (by decide) k) ?_
      show Go p e below _ (T26.setTop (mkF m 225 #[.val (.int p1), .val (.int p2), .val (.int (1 : Int32)), .val (.int v4), .val (.int v5), .val (.int v6), .val (.ref b7), .val (.ref b10), .val (.ref b13), .val (.ref b16), .val (.int (1 : Int32)), .val (.ref b24_0)] []))
      refine Go.step (fun t k => XS.iloadN X26.here hx rfl (hb hby at_225) rfl k) ?_
      show Go p e below _ (T26.setTop (mkF m 226 #[.val (.int p1), .val (.int p2), .val (.int (1 : Int32)), .val (.int v4), .val (.int v5), .val (.int v6), .val (.ref b7), .val (.ref b10), .val (.ref b13), .val (.ref b16), .val (.int (1 : Int32)), .val (.ref b24_0)] [(.int (1 : Int32))]))
      refine Go.step (fun t k => XS.iconst X26.here hx rfl (hb hby at_226)  k) ?_
      show Go p e below _ (T26.setTop (mkF m 227 #[.val (.int p1), .val (.int p2), .val (.int (1 : Int32)), .val (.int v4), .val (.int v5), .val (.int v6), .val (.ref b7), .val (.ref b10), .val (.ref b13), .val (.ref b16), .val (.int (1 : Int32)), .val (.ref b24_0)] [(.int (2 : Int32)), (.int (1 : Int32))]))
      refine Go.step (fun t k => XS.icmpYes X26.here hx rfl (pc0 := 227) (pc' := 245) rfl (hb hby at_227) rfl (tlt (by decide : (1 : Int32) < (2 : Int32))).1 (by decide) (by decide) k) ?_
      show Go p e below _ (T26.setTop (mkF m 245 #[.val (.int p1), .val (.int p2), .val (.int (1 : Int32)), .val (.int v4), .val (.int v5), .val (.int v6), .val (.ref b7), .val (.ref b10), .val (.ref b13), .val (.ref b16), .val (.int (1 : Int32)), .val (.ref b24_0)] []))
      refine Go.step (fun t k => XS.iloadN X26.here hx rfl (hb hby at_245) rfl k) ?_
      show Go p e below _ (T26.setTop (mkF m 246 #[.val (.int p1), .val (.int p2), .val (.int (1 : Int32)), .val (.int v4), .val (.int v5), .val (.int v6), .val (.ref b7), .val (.ref b10), .val (.ref b13), .val (.ref b16), .val (.int (1 : Int32)), .val (.ref b24_0)] [(.int (1 : Int32))]))
      refine Go.step (fun t k => XS.iconst X26.here hx rfl (hb hby at_246)  k) ?_
      show Go p e below _ (T26.setTop (mkF m 247 #[.val (.int p1), .val (.int p2), .val (.int (1 : Int32)), .val (.int v4), .val (.int v5), .val (.int v6), .val (.ref b7), .val (.ref b10), .val (.ref b13), .val (.ref b16), .val (.int (1 : Int32)), .val (.ref b24_0)] [(.int (3 : Int32)), (.int (1 : Int32))]))
      refine Go.step (fun t k => XS.icmpYes X26.here hx rfl (pc0 := 247) (pc' := 265) rfl (hb hby at_247) rfl (tlt (by decide : (1 : Int32) < (3 : Int32))).1 (by decide) (by decide) k) ?_
      show Go p e below _ (T26.setTop (mkF m 265 #[.val (.int p1), .val (.int p2), .val (.int (1 : Int32)), .val (.int v4), .val (.int v5), .val (.int v6), .val (.ref b7), .val (.ref b10), .val (.ref b13), .val (.ref b16), .val (.int (1 : Int32)), .val (.ref b24_0)] []))
      refine Go.step (fun t k => XS.iloadN X26.here hx rfl (hb hby at_265) rfl k) ?_
      show Go p e below _ (T26.setTop (mkF m 266 #[.val (.int p1), .val (.int p2), .val (.int (1 : Int32)), .val (.int v4), .val (.int v5), .val (.int v6), .val (.ref b7), .val (.ref b10), .val (.ref b13), .val (.ref b16), .val (.int (1 : Int32)), .val (.ref b24_0)] [(.int (1 : Int32))]))
      refine Go.step (fun t k => XS.iconst X26.here hx rfl (hb hby at_266)  k) ?_
      show Go p e below _ (T26.setTop (mkF m 267 #[.val (.int p1), .val (.int p2), .val (.int (1 : Int32)), .val (.int v4), .val (.int v5), .val (.int v6), .val (.ref b7), .val (.ref b10), .val (.ref b13), .val (.ref b16), .val (.int (1 : Int32)), .val (.ref b24_0)] [(.int (1 : Int32)), (.int (1 : Int32))]))
      refine Go.step (fun t k => XS.icmpNo X26.here hx rfl (hb hby at_267) rfl (flt (by decide : ¬ ((1 : Int32) < (1 : Int32)))).1 k) ?_
      show Go p e below _ (T26.setTop (mkF m 270 #[.val (.int p1), .val (.int p2), .val (.int (1 : Int32)), .val (.int v4), .val (.int v5), .val (.int v6), .val (.ref b7), .val (.ref b10), .val (.ref b13), .val (.ref b16), .val (.int (1 : Int32)), .val (.ref b24_0)] []))
      refine Go.step (fun t k => XS.aload X26.here hx rfl (hb hby at_270) rfl rfl k) ?_
      show Go p e below _ (T26.setTop (mkF m 272 #[.val (.int p1), .val (.int p2), .val (.int (1 : Int32)), .val (.int v4), .val (.int v5), .val (.int v6), .val (.ref b7), .val (.ref b10), .val (.ref b13), .val (.ref b16), .val (.int (1 : Int32)), .val (.ref b24_0)] [(.ref b10)]))
      obtain ⟨cq27, kq27, q27a, q27b, q27c⟩ := isOf hZ e26 E_b10_24
      obtain ⟨_, _, ⟨T27, L27, k27, n27⟩, -, X27, ⟨Lc27, hQ27, l27, y27, z27⟩, st27⟩ := X26.virtualBack hx (y := (⟨"com/example/dataflow_to_dispatch/dataflowtodispatch/model/document/XmlElement", "position", "()I"⟩ : MethodName)) (z := (⟨"com/example/dataflow_to_dispatch/dataflowtodispatch/model/document/XmlElement", "position", "()I"⟩ : MethodName)) hown (mvT hZ (hw _ (List.mem_of_getElem? (i := 151) rfl))) (mvT hZ (hw _ (List.mem_of_getElem? (i := 152) rfl))) (notFace_of_selects (args := #[]) (mvT hZ (hw _ (List.mem_of_getElem? (i := 154) rfl)))) (mvT hZ (hw _ (List.mem_of_getElem? (i := 154) rfl))) (mvT hZ (hw _ (List.mem_of_getElem? (i := 153) rfl))) (by decide) (backOf (W := 0) (rm23_0 l Z a0 hw [] b10 T24.heap n0 Z24 F_previous_b10_24) hZ (hw _ (List.mem_of_getElem? (i := 155) rfl)) (hw _ (List.mem_of_getElem? (i := 2) rfl)) (by decide) (by decide)) q27a q27c (g := (mkF m 272 #[.val (.int p1), .val (.int p2), .val (.int (1 : Int32)), .val (.int v4), .val (.int v5), .val (.int v6), .val (.ref b7), .val (.ref b10), .val (.ref b13), .val (.ref b16), .val (.int (1 : Int32)), .val (.ref b24_0)] [(.ref b10)])) rfl (by rw [hml]; rfl) (Steps.refl _) (argsL := []) (rest := []) (lenOf pd_16 rfl) rfl (by show 2 * 0 + _ ≤ _; exact Nat.le_of_eq rfl) (hb hby at_272) (fun _ _ => ⟨rfl, e26, (by decide : 22 + 0 ≤ _), (by decide : 89 + 0 ≤ _)⟩)
      dsimp only [Pt.U, Pt.locs, Pt.cells, Pt.slots] at X27 l27 y27 z27 st27 hQ27
      subst l27 y27 z27
      obtain ⟨rfl, N27q, e27⟩ := hQ27
      have N27 := Fr.app N26 N27q
      refine Go.trans st27 ?_
      show Go p e below _ (T27.setTop (mkF m 275 #[.val (.int p1), .val (.int p2), .val (.int (1 : Int32)), .val (.int v4), .val (.int v5), .val (.int v6), .val (.ref b7), .val (.ref b10), .val (.ref b13), .val (.ref b16), .val (.int (1 : Int32)), .val (.ref b24_0)] [(.int f23_0)]))
      refine Go.step (fun t k => XS.iconst X27.here hx rfl (hb hby at_275)  k) ?_
      show Go p e below _ (T27.setTop (mkF m 276 #[.val (.int p1), .val (.int p2), .val (.int (1 : Int32)), .val (.int v4), .val (.int v5), .val (.int v6), .val (.ref b7), .val (.ref b10), .val (.ref b13), .val (.ref b16), .val (.int (1 : Int32)), .val (.ref b24_0)] [(.int (1 : Int32)), (.int f23_0)]))
      by_cases hc28 : f23_0 = (1 : Int32)
      · refine Go.step (fun t k => XS.icmpYes X27.here hx rfl (pc0 := 276) (pc' := 281) rfl (hb hby at_276) rfl (teq hc28).1 (by decide) (by decide) k) ?_
        show Go p e below _ (T27.setTop (mkF m 281 #[.val (.int p1), .val (.int p2), .val (.int (1 : Int32)), .val (.int v4), .val (.int v5), .val (.int v6), .val (.ref b7), .val (.ref b10), .val (.ref b13), .val (.ref b16), .val (.int (1 : Int32)), .val (.ref b24_0)] []))
        refine Go.step (fun t k => XS.iloadN X27.here hx rfl (hb hby at_281) rfl k) ?_
        show Go p e below _ (T27.setTop (mkF m 282 #[.val (.int p1), .val (.int p2), .val (.int (1 : Int32)), .val (.int v4), .val (.int v5), .val (.int v6), .val (.ref b7), .val (.ref b10), .val (.ref b13), .val (.ref b16), .val (.int (1 : Int32)), .val (.ref b24_0)] [(.int (1 : Int32))]))
        refine Go.step (fun t k => XS.iconst X27.here hx rfl (hb hby at_282)  k) ?_
        show Go p e below _ (T27.setTop (mkF m 283 #[.val (.int p1), .val (.int p2), .val (.int (1 : Int32)), .val (.int v4), .val (.int v5), .val (.int v6), .val (.ref b7), .val (.ref b10), .val (.ref b13), .val (.ref b16), .val (.int (1 : Int32)), .val (.ref b24_0)] [(.int (2 : Int32)), (.int (1 : Int32))]))
        refine Go.step (fun t k => XS.icmpYes X27.here hx rfl (pc0 := 283) (pc' := 309) rfl (hb hby at_283) rfl (tlt (by decide : (1 : Int32) < (2 : Int32))).1 (by decide) (by decide) k) ?_
        show Go p e below _ (T27.setTop (mkF m 309 #[.val (.int p1), .val (.int p2), .val (.int (1 : Int32)), .val (.int v4), .val (.int v5), .val (.int v6), .val (.ref b7), .val (.ref b10), .val (.ref b13), .val (.ref b16), .val (.int (1 : Int32)), .val (.ref b24_0)] []))
        refine Go.step (fun t k => XS.iloadN X27.here hx rfl (hb hby at_309) rfl k) ?_
        show Go p e below _ (T27.setTop (mkF m 310 #[.val (.int p1), .val (.int p2), .val (.int (1 : Int32)), .val (.int v4), .val (.int v5), .val (.int v6), .val (.ref b7), .val (.ref b10), .val (.ref b13), .val (.ref b16), .val (.int (1 : Int32)), .val (.ref b24_0)] [(.int (1 : Int32))]))
        refine Go.step (fun t k => XS.iconst X27.here hx rfl (hb hby at_310)  k) ?_
        show Go p e below _ (T27.setTop (mkF m 311 #[.val (.int p1), .val (.int p2), .val (.int (1 : Int32)), .val (.int v4), .val (.int v5), .val (.int v6), .val (.ref b7), .val (.ref b10), .val (.ref b13), .val (.ref b16), .val (.int (1 : Int32)), .val (.ref b24_0)] [(.int (3 : Int32)), (.int (1 : Int32))]))
        refine Go.step (fun t k => XS.icmpYes X27.here hx rfl (pc0 := 311) (pc' := 350) rfl (hb hby at_311) rfl (tlt (by decide : (1 : Int32) < (3 : Int32))).1 (by decide) (by decide) k) ?_
        show Go p e below _ (T27.setTop (mkF m 350 #[.val (.int p1), .val (.int p2), .val (.int (1 : Int32)), .val (.int v4), .val (.int v5), .val (.int v6), .val (.ref b7), .val (.ref b10), .val (.ref b13), .val (.ref b16), .val (.int (1 : Int32)), .val (.ref b24_0)] []))
        refine Go.step (fun t k => XS.iload X27.here hx rfl (hb hby at_350) rfl k) ?_
        show Go p e below _ (T27.setTop (mkF m 352 #[.val (.int p1), .val (.int p2), .val (.int (1 : Int32)), .val (.int v4), .val (.int v5), .val (.int v6), .val (.ref b7), .val (.ref b10), .val (.ref b13), .val (.ref b16), .val (.int (1 : Int32)), .val (.ref b24_0)] [(.int (1 : Int32))]))
        subst hv6
        subst hv5
        subst hv4
        subst hv3
        exact retGN X27 hx Bd.notSynchronized Bd.returns (t := .boolean) (by simp) (z' := (1 : Int32)) rfl (hb hby at_352) ⟨by first | (simp only [f0, if_neg hc19, if_pos hc22, if_pos hc28]; done) | rfl | (simp [f0, if_neg hc19, if_pos hc22, if_pos hc28]; done), N27⟩ (by decide) (by decide)
      · refine Go.step (fun t k => XS.icmpNo X27.here hx rfl (hb hby at_276) rfl (feq hc28).1 k) ?_
        show Go p e below _ (T27.setTop (mkF m 279 #[.val (.int p1), .val (.int p2), .val (.int (1 : Int32)), .val (.int v4), .val (.int v5), .val (.int v6), .val (.ref b7), .val (.ref b10), .val (.ref b13), .val (.ref b16), .val (.int (1 : Int32)), .val (.ref b24_0)] []))
        refine Go.step (fun t k => XS.iconst X27.here hx rfl (hb hby at_279)  k) ?_
        show Go p e below _ (T27.setTop (mkF m 280 #[.val (.int p1), .val (.int p2), .val (.int (1 : Int32)), .val (.int v4), .val (.int v5), .val (.int v6), .val (.ref b7), .val (.ref b10), .val (.ref b13), .val (.ref b16), .val (.int (1 : Int32)), .val (.ref b24_0)] [(.int (0 : Int32))]))
        subst hv6
        subst hv5
        subst hv4
        subst hv3
        exact retGN X27 hx Bd.notSynchronized Bd.returns (t := .boolean) (by simp) (z' := (0 : Int32)) rfl (hb hby at_280) ⟨by first | (simp only [f0, if_neg hc19, if_pos hc22, if_neg hc28]; done) | rfl | (simp [f0, if_neg hc19, if_pos hc22, if_neg hc28]; done), N27⟩ (by decide) (by decide)
    · skip
      by_cases hc29 : v3 = (2 : Int32)
      · rw [hc29]
        show Go p e below _ (T18.setTop (mkF m 98 #[.val (.int p1), .val (.int p2), .val (.int (2 : Int32)), .val (.int v4), .val (.int v5), .val (.int v6), .val (.ref b7), .val (.ref b10), .val (.ref b13), .val (.ref b16), .val (.int (1 : Int32)), .unset] []))
        refine Go.step (fun t k => XS.iloadN X18.here hx rfl (hb hby at_98) rfl k) ?_
        show Go p e below _ (T18.setTop (mkF m 99 #[.val (.int p1), .val (.int p2), .val (.int (2 : Int32)), .val (.int v4), .val (.int v5), .val (.int v6), .val (.ref b7), .val (.ref b10), .val (.ref b13), .val (.ref b16), .val (.int (1 : Int32)), .unset] [(.int (2 : Int32))]))
        refine Go.step (fun t k => XS.iconst X18.here hx rfl (hb hby at_99)  k) ?_
        show Go p e below _ (T18.setTop (mkF m 100 #[.val (.int p1), .val (.int p2), .val (.int (2 : Int32)), .val (.int v4), .val (.int v5), .val (.int v6), .val (.ref b7), .val (.ref b10), .val (.ref b13), .val (.ref b16), .val (.int (1 : Int32)), .unset] [(.int (1 : Int32)), (.int (2 : Int32))]))
        refine Go.step (fun t k => XS.icmpNo X18.here hx rfl (hb hby at_100) rfl (flt (by decide : ¬ ((2 : Int32) < (1 : Int32)))).1 k) ?_
        show Go p e below _ (T18.setTop (mkF m 103 #[.val (.int p1), .val (.int p2), .val (.int (2 : Int32)), .val (.int v4), .val (.int v5), .val (.int v6), .val (.ref b7), .val (.ref b10), .val (.ref b13), .val (.ref b16), .val (.int (1 : Int32)), .unset] []))
        refine Go.step (fun t k => XS.iload X18.here hx rfl (hb hby at_103) rfl k) ?_
        show Go p e below _ (T18.setTop (mkF m 105 #[.val (.int p1), .val (.int p2), .val (.int (2 : Int32)), .val (.int v4), .val (.int v5), .val (.int v6), .val (.ref b7), .val (.ref b10), .val (.ref b13), .val (.ref b16), .val (.int (1 : Int32)), .unset] [(.int (1 : Int32))]))
        refine Go.step (fun t k => XS.ifNo X18.here hx rfl (hb hby at_105) rfl ((if0 _ _).trans (feq (by decide : ¬ ((1 : Int32) = (0 : Int32)))).1) k) ?_
        show Go p e below _ (T18.setTop (mkF m 108 #[.val (.int p1), .val (.int p2), .val (.int (2 : Int32)), .val (.int v4), .val (.int v5), .val (.int v6), .val (.ref b7), .val (.ref b10), .val (.ref b13), .val (.ref b16), .val (.int (1 : Int32)), .unset] []))
        refine Go.step (fun t k => XS.aload X18.here hx rfl (hb hby at_108) rfl rfl k) ?_
        show Go p e below _ (T18.setTop (mkF m 110 #[.val (.int p1), .val (.int p2), .val (.int (2 : Int32)), .val (.int v4), .val (.int v5), .val (.int v6), .val (.ref b7), .val (.ref b10), .val (.ref b13), .val (.ref b16), .val (.int (1 : Int32)), .unset] [(.ref b7)]))
        refine Go.step (fun t k => XS.aload X18.here hx rfl (hb hby at_110) rfl rfl k) ?_
        show Go p e below _ (T18.setTop (mkF m 112 #[.val (.int p1), .val (.int p2), .val (.int (2 : Int32)), .val (.int v4), .val (.int v5), .val (.int v6), .val (.ref b7), .val (.ref b10), .val (.ref b13), .val (.ref b16), .val (.int (1 : Int32)), .unset] [(.ref b10), (.ref b7)]))
        obtain ⟨cq30, kq30, q30a, q30b, q30c⟩ := isOf hZ rfl E_b7_18
        obtain ⟨_, _, ⟨T30, L30, k30, n30⟩, -, X30, ⟨Lc30, hQ30, l30, y30, z30⟩, st30⟩ := X18.virtualBack hx (y := (⟨"com/example/dataflow_to_dispatch/dataflowtodispatch/model/document/XmlElement", "append", "(Lcom/example/dataflow_to_dispatch/dataflowtodispatch/model/document/XmlElement;)Lcom/example/dataflow_to_dispatch/dataflowtodispatch/model/document/XmlElement;"⟩ : MethodName)) (z := (⟨"com/example/dataflow_to_dispatch/dataflowtodispatch/model/document/XmlElement", "append", "(Lcom/example/dataflow_to_dispatch/dataflowtodispatch/model/document/XmlElement;)Lcom/example/dataflow_to_dispatch/dataflowtodispatch/model/document/XmlElement;"⟩ : MethodName)) hown (mvT hZ (hw _ (List.mem_of_getElem? (i := 81) rfl))) (mvT hZ (hw _ (List.mem_of_getElem? (i := 82) rfl))) (notFace_of_selects (args := #[]) (mvT hZ (hw _ (List.mem_of_getElem? (i := 84) rfl)))) (mvT hZ (hw _ (List.mem_of_getElem? (i := 84) rfl))) (mvT hZ (hw _ (List.mem_of_getElem? (i := 83) rfl))) (by decide) (backOf (W := 0) (rm12_n l Z a0 hw [] b7 b10 .null (.ref b11_0) .null .null .null T18.heap n0 Z18 E_b7_18 F_firstChild_b7_18 F_lastChild_b7_18 E_b10_18 F_name_b10_18 F_parent_b10_18 F_previous_b10_18 F_next_b10_18 g_b10 g_b7 ne_b7_b10 (Ne.symm ne_b7_b10)) hZ (hw _ (List.mem_of_getElem? (i := 85) rfl)) (hw _ (List.mem_of_getElem? (i := 2) rfl)) (by decide) (by decide)) q30a q30c (g := (mkF m 112 #[.val (.int p1), .val (.int p2), .val (.int (2 : Int32)), .val (.int v4), .val (.int v5), .val (.int v6), .val (.ref b7), .val (.ref b10), .val (.ref b13), .val (.ref b16), .val (.int (1 : Int32)), .unset] [(.ref b10), (.ref b7)])) rfl (by rw [hml]; rfl) (Steps.refl _) (argsL := [(.ref b10)]) (rest := []) (lenOf pd_17 rfl) rfl (by show 2 * 0 + _ ≤ _; exact Nat.le_of_eq rfl) (hb hby at_112) (fun _ _ => ⟨rfl, rfl, (by decide : 20 + 0 ≤ _), (by decide : 76 + 0 ≤ _)⟩)
        dsimp only [Pt.U, Pt.locs, Pt.cells, Pt.slots] at X30 l30 y30 z30 st30 hQ30
        subst l30 y30 z30
        obtain ⟨rfl, N30q, K30, Q30_0, Q30_1, Q30_2, Q30_3, Q30_4, Q30_5, Q30_6, Q30_7⟩ := hQ30
        have N30 := Fr.app N18 N30q
        have E_b7_30 := E_b7_18.keep K30
        have E_b8_0_30 := E_b8_0_18.keep K30
        have A_b8_1_30 := A_b8_1_18.keep K30 (ninS ne_b8_1_b10 (ninS (Ne.symm ne_b7_b8_1) nin0))
        have F_coder_b8_0_30 := F_coder_b8_0_18.keep K30 (ninS ne_b8_0_b10 (ninS (Ne.symm ne_b7_b8_0) nin0))
        have F_value_b8_0_30 := F_value_b8_0_18.keep K30 (ninS ne_b8_0_b10 (ninS (Ne.symm ne_b7_b8_0) nin0))
        have E_b10_30 := E_b10_18.keep K30
        have E_b11_0_30 := E_b11_0_18.keep K30
        have A_b11_1_30 := A_b11_1_18.keep K30 (ninS (Ne.symm ne_b10_b11_1) (ninS (Ne.symm ne_b7_b11_1) nin0))
        have F_coder_b11_0_30 := F_coder_b11_0_18.keep K30 (ninS (Ne.symm ne_b10_b11_0) (ninS (Ne.symm ne_b7_b11_0) nin0))
        have F_value_b11_0_30 := F_value_b11_0_18.keep K30 (ninS (Ne.symm ne_b10_b11_0) (ninS (Ne.symm ne_b7_b11_0) nin0))
        have E_b13_30 := E_b13_18.keep K30
        have E_b14_0_30 := E_b14_0_18.keep K30
        have A_b14_1_30 := A_b14_1_18.keep K30 (ninS (Ne.symm ne_b10_b14_1) (ninS (Ne.symm ne_b7_b14_1) nin0))
        have F_coder_b14_0_30 := F_coder_b14_0_18.keep K30 (ninS (Ne.symm ne_b10_b14_0) (ninS (Ne.symm ne_b7_b14_0) nin0))
        have F_value_b14_0_30 := F_value_b14_0_18.keep K30 (ninS (Ne.symm ne_b10_b14_0) (ninS (Ne.symm ne_b7_b14_0) nin0))
        have F_parent_b13_30 := F_parent_b13_18.keep K30 (ninS (Ne.symm ne_b10_b13) (ninS (Ne.symm ne_b7_b13) nin0))
        have F_previous_b13_30 := F_previous_b13_18.keep K30 (ninS (Ne.symm ne_b10_b13) (ninS (Ne.symm ne_b7_b13) nin0))
        have F_next_b13_30 := F_next_b13_18.keep K30 (ninS (Ne.symm ne_b10_b13) (ninS (Ne.symm ne_b7_b13) nin0))
        have F_firstChild_b13_30 := F_firstChild_b13_18.keep K30 (ninS (Ne.symm ne_b10_b13) (ninS (Ne.symm ne_b7_b13) nin0))
        have F_lastChild_b13_30 := F_lastChild_b13_18.keep K30 (ninS (Ne.symm ne_b10_b13) (ninS (Ne.symm ne_b7_b13) nin0))
        have F_name_b13_30 := F_name_b13_18.keep K30 (ninS (Ne.symm ne_b10_b13) (ninS (Ne.symm ne_b7_b13) nin0))
        have E_b16_30 := Q18_5.keep K30
        have E_b17_0_30 := E_b17_0_18.keep K30
        have A_b17_1_30 := A_b17_1_18.keep K30 (ninS (Ne.symm ne_b10_b17_1) (ninS (Ne.symm ne_b7_b17_1) nin0))
        have F_coder_b17_0_30 := F_coder_b17_0_18.keep K30 (ninS (Ne.symm ne_b10_b17_0) (ninS (Ne.symm ne_b7_b17_0) nin0))
        have F_value_b17_0_30 := F_value_b17_0_18.keep K30 (ninS (Ne.symm ne_b10_b17_0) (ninS (Ne.symm ne_b7_b17_0) nin0))
        have F_parent_b16_30 := Q18_0.keep K30 (ninS (Ne.symm ne_b10_b16) (ninS (Ne.symm ne_b7_b16) nin0))
        have F_previous_b16_30 := Q18_1.keep K30 (ninS (Ne.symm ne_b10_b16) (ninS (Ne.symm ne_b7_b16) nin0))
        have F_next_b16_30 := Q18_2.keep K30 (ninS (Ne.symm ne_b10_b16) (ninS (Ne.symm ne_b7_b16) nin0))
        have F_firstChild_b16_30 := Q18_3.keep K30 (ninS (Ne.symm ne_b10_b16) (ninS (Ne.symm ne_b7_b16) nin0))
        have F_lastChild_b16_30 := Q18_4.keep K30 (ninS (Ne.symm ne_b10_b16) (ninS (Ne.symm ne_b7_b16) nin0))
        have F_name_b16_30 := Q18_6.keep K30 (ninS (Ne.symm ne_b10_b16) (ninS (Ne.symm ne_b7_b16) nin0))
        have O30 := O18.keep K30 (allS g_b10 (allS g_b7 all0))
        have Z30 := Nat.le_trans Z18 K30.1
        have KK30 : Keep h0 T30.heap [] := KK18.trans K30 (allS (Or.inr sz_b10) (allS (Or.inr sz_b7) all0))
        clear E_b7_18 E_b8_0_18 A_b8_1_18 F_coder_b8_0_18 F_value_b8_0_18 E_b10_18 E_b11_0_18 A_b11_1_18 F_coder_b11_0_18 F_value_b11_0_18 E_b13_18 E_b14_0_18 A_b14_1_18 F_coder_b14_0_18 F_value_b14_0_18 F_parent_b13_18 F_previous_b13_18 F_next_b13_18 F_firstChild_b13_18 F_lastChild_b13_18 F_name_b13_18 Q18_5 E_b17_0_18 A_b17_1_18 F_coder_b17_0_18 F_value_b17_0_18 Q18_0 Q18_1 Q18_2 Q18_3 Q18_4 Q18_6 O18 Z18 KK18 K30
        refine Go.trans st30 ?_
        show Go p e below _ (T30.setTop (mkF m 115 #[.val (.int p1), .val (.int p2), .val (.int (2 : Int32)), .val (.int v4), .val (.int v5), .val (.int v6), .val (.ref b7), .val (.ref b10), .val (.ref b13), .val (.ref b16), .val (.int (1 : Int32)), .unset] [(.ref b10)]))
        refine Go.step (fun t k => XS.aload X30.here hx rfl (hb hby at_115) rfl rfl k) ?_
        show Go p e below _ (T30.setTop (mkF m 117 #[.val (.int p1), .val (.int p2), .val (.int (2 : Int32)), .val (.int v4), .val (.int v5), .val (.int v6), .val (.ref b7), .val (.ref b10), .val (.ref b13), .val (.ref b16), .val (.int (1 : Int32)), .unset] [(.ref b10), (.ref b10)]))
        refine Go.step (fun t k => Jvm.RoadKit.acmp (g := (mkF m 117 #[.val (.int p1), .val (.int p2), .val (.int (2 : Int32)), .val (.int v4), .val (.int v5), .val (.int v6), .val (.ref b7), .val (.ref b10), .val (.ref b13), .val (.ref b16), .val (.int (1 : Int32)), .unset] [(.ref b10), (.ref b10)])) X30 hx rfl rfl rfl (pc0 := 117) (pc' := 120) (same := true) rfl (hb hby at_117) rfl (decide_eq_true rfl) (by decide) (by decide) k) ?_
        show Go p e below _ (T30.setTop (mkF m 120 #[.val (.int p1), .val (.int p2), .val (.int (2 : Int32)), .val (.int v4), .val (.int v5), .val (.int v6), .val (.ref b7), .val (.ref b10), .val (.ref b13), .val (.ref b16), .val (.int (1 : Int32)), .unset] []))
        refine Go.step (fun t k => XS.iconst X30.here hx rfl (hb hby at_120)  k) ?_
        show Go p e below _ (T30.setTop (mkF m 121 #[.val (.int p1), .val (.int p2), .val (.int (2 : Int32)), .val (.int v4), .val (.int v5), .val (.int v6), .val (.ref b7), .val (.ref b10), .val (.ref b13), .val (.ref b16), .val (.int (1 : Int32)), .unset] [(.int (1 : Int32))]))
        refine Go.step (fun t k => XS.goto X30.here hx rfl (pc0 := 121) (pc' := 125) rfl (hb hby at_121) (by decide) (by decide) k) ?_
        show Go p e below _ (T30.setTop (mkF m 125 #[.val (.int p1), .val (.int p2), .val (.int (2 : Int32)), .val (.int v4), .val (.int v5), .val (.int v6), .val (.ref b7), .val (.ref b10), .val (.ref b13), .val (.ref b16), .val (.int (1 : Int32)), .unset] [(.int (1 : Int32))]))
        refine Go.step (fun t k => XS.istore X30.here hx rfl (hb hby at_125) rfl (l' := #[.val (.int p1), .val (.int p2), .val (.int (2 : Int32)), .val (.int v4), .val (.int v5), .val (.int v6), .val (.ref b7), .val (.ref b10), .val (.ref b13), .val (.ref b16), .val (.int (1 : Int32)), .unset]) rfl k) ?_
        show Go p e below _ (T30.setTop (mkF m 127 #[.val (.int p1), .val (.int p2), .val (.int (2 : Int32)), .val (.int v4), .val (.int v5), .val (.int v6), .val (.ref b7), .val (.ref b10), .val (.ref b13), .val (.ref b16), .val (.int (1 : Int32)), .unset] []))
        refine Go.step (fun t k => XS.iloadN X30.here hx rfl (hb hby at_127) rfl k) ?_
        show Go p e below _ (T30.setTop (mkF m 128 #[.val (.int p1), .val (.int p2), .val (.int (2 : Int32)), .val (.int v4), .val (.int v5), .val (.int v6), .val (.ref b7), .val (.ref b10), .val (.ref b13), .val (.ref b16), .val (.int (1 : Int32)), .unset] [(.int (2 : Int32))]))
        refine Go.step (fun t k => XS.iconst X30.here hx rfl (hb hby at_128)  k) ?_
        show Go p e below _ (T30.setTop (mkF m 129 #[.val (.int p1), .val (.int p2), .val (.int (2 : Int32)), .val (.int v4), .val (.int v5), .val (.int v6), .val (.ref b7), .val (.ref b10), .val (.ref b13), .val (.ref b16), .val (.int (1 : Int32)), .unset] [(.int (2 : Int32)), (.int (2 : Int32))]))
        refine Go.step (fun t k => XS.icmpNo X30.here hx rfl (hb hby at_129) rfl (flt (by decide : ¬ ((2 : Int32) < (2 : Int32)))).1 k) ?_
        show Go p e below _ (T30.setTop (mkF m 132 #[.val (.int p1), .val (.int p2), .val (.int (2 : Int32)), .val (.int v4), .val (.int v5), .val (.int v6), .val (.ref b7), .val (.ref b10), .val (.ref b13), .val (.ref b16), .val (.int (1 : Int32)), .unset] []))
        refine Go.step (fun t k => XS.iload X30.here hx rfl (hb hby at_132) rfl k) ?_
        show Go p e below _ (T30.setTop (mkF m 134 #[.val (.int p1), .val (.int p2), .val (.int (2 : Int32)), .val (.int v4), .val (.int v5), .val (.int v6), .val (.ref b7), .val (.ref b10), .val (.ref b13), .val (.ref b16), .val (.int (1 : Int32)), .unset] [(.int (1 : Int32))]))
        refine Go.step (fun t k => XS.ifNo X30.here hx rfl (hb hby at_134) rfl ((if0 _ _).trans (feq (by decide : ¬ ((1 : Int32) = (0 : Int32)))).1) k) ?_
        show Go p e below _ (T30.setTop (mkF m 137 #[.val (.int p1), .val (.int p2), .val (.int (2 : Int32)), .val (.int v4), .val (.int v5), .val (.int v6), .val (.ref b7), .val (.ref b10), .val (.ref b13), .val (.ref b16), .val (.int (1 : Int32)), .unset] []))
        refine Go.step (fun t k => XS.aload X30.here hx rfl (hb hby at_137) rfl rfl k) ?_
        show Go p e below _ (T30.setTop (mkF m 139 #[.val (.int p1), .val (.int p2), .val (.int (2 : Int32)), .val (.int v4), .val (.int v5), .val (.int v6), .val (.ref b7), .val (.ref b10), .val (.ref b13), .val (.ref b16), .val (.int (1 : Int32)), .unset] [(.ref b7)]))
        refine Go.step (fun t k => XS.aload X30.here hx rfl (hb hby at_139) rfl rfl k) ?_
        show Go p e below _ (T30.setTop (mkF m 141 #[.val (.int p1), .val (.int p2), .val (.int (2 : Int32)), .val (.int v4), .val (.int v5), .val (.int v6), .val (.ref b7), .val (.ref b10), .val (.ref b13), .val (.ref b16), .val (.int (1 : Int32)), .unset] [(.ref b13), (.ref b7)]))
        obtain ⟨cq31, kq31, q31a, q31b, q31c⟩ := isOf hZ rfl Q30_0
        obtain ⟨_, _, ⟨T31, L31, k31, n31⟩, -, X31, ⟨Lc31, hQ31, l31, y31, z31⟩, st31⟩ := X30.virtualBack hx (y := (⟨"com/example/dataflow_to_dispatch/dataflowtodispatch/model/document/XmlElement", "append", "(Lcom/example/dataflow_to_dispatch/dataflowtodispatch/model/document/XmlElement;)Lcom/example/dataflow_to_dispatch/dataflowtodispatch/model/document/XmlElement;"⟩ : MethodName)) (z := (⟨"com/example/dataflow_to_dispatch/dataflowtodispatch/model/document/XmlElement", "append", "(Lcom/example/dataflow_to_dispatch/dataflowtodispatch/model/document/XmlElement;)Lcom/example/dataflow_to_dispatch/dataflowtodispatch/model/document/XmlElement;"⟩ : MethodName)) hown (mvT hZ (hw _ (List.mem_of_getElem? (i := 81) rfl))) (mvT hZ (hw _ (List.mem_of_getElem? (i := 82) rfl))) (notFace_of_selects (args := #[]) (mvT hZ (hw _ (List.mem_of_getElem? (i := 84) rfl)))) (mvT hZ (hw _ (List.mem_of_getElem? (i := 84) rfl))) (mvT hZ (hw _ (List.mem_of_getElem? (i := 83) rfl))) (by decide) (backOf (W := 0) (rm12_r l Z a0 hw [] b7 b13 (.ref b10) b10 (.ref b11_0) .null .null (.ref b14_0) .null .null .null T30.heap n0 Z30 Q30_0 Q30_3 Q30_2 Q30_1 Q30_4 Q30_6 Q30_7 E_b13_30 F_name_b13_30 F_parent_b13_30 F_previous_b13_30 F_next_b13_30 g_b13 g_b10 ne_b10_b13 (Ne.symm ne_b10_b13) ne_b7_b10 ne_b7_b13 g_b7 (Ne.symm ne_b7_b10) (Ne.symm ne_b7_b13)) hZ (hw _ (List.mem_of_getElem? (i := 85) rfl)) (hw _ (List.mem_of_getElem? (i := 2) rfl)) (by decide) (by decide)) q31a q31c (g := (mkF m 141 #[.val (.int p1), .val (.int p2), .val (.int (2 : Int32)), .val (.int v4), .val (.int v5), .val (.int v6), .val (.ref b7), .val (.ref b10), .val (.ref b13), .val (.ref b16), .val (.int (1 : Int32)), .unset] [(.ref b13), (.ref b7)])) rfl (by rw [hml]; rfl) (Steps.refl _) (argsL := [(.ref b13)]) (rest := []) (lenOf pd_17 rfl) rfl (by show 2 * 0 + _ ≤ _; exact Nat.le_of_eq rfl) (hb hby at_141) (fun _ _ => ⟨rfl, rfl, (by decide : 20 + 0 ≤ _), (by decide : 76 + 0 ≤ _)⟩)
        dsimp only [Pt.U, Pt.locs, Pt.cells, Pt.slots] at X31 l31 y31 z31 st31 hQ31
        subst l31 y31 z31
        obtain ⟨rfl, N31q, K31, Q31_0, Q31_1, Q31_2, Q31_3, Q31_4, Q31_5, Q31_6, Q31_7, Q31_8, Q31_9, Q31_10, Q31_11⟩ := hQ31
        have N31 := Fr.app N30 N31q
        have E_b7_31 := Q30_0.keep K31
        have E_b8_0_31 := E_b8_0_30.keep K31
        have A_b8_1_31 := A_b8_1_30.keep K31 (ninS ne_b8_1_b13 (ninS ne_b8_1_b10 (ninS (Ne.symm ne_b7_b8_1) nin0)))
        have F_coder_b8_0_31 := F_coder_b8_0_30.keep K31 (ninS ne_b8_0_b13 (ninS ne_b8_0_b10 (ninS (Ne.symm ne_b7_b8_0) nin0)))
        have F_value_b8_0_31 := F_value_b8_0_30.keep K31 (ninS ne_b8_0_b13 (ninS ne_b8_0_b10 (ninS (Ne.symm ne_b7_b8_0) nin0)))
        have E_b10_31 := Q30_1.keep K31
        have E_b11_0_31 := E_b11_0_30.keep K31
        have A_b11_1_31 := A_b11_1_30.keep K31 (ninS ne_b11_1_b13 (ninS (Ne.symm ne_b10_b11_1) (ninS (Ne.symm ne_b7_b11_1) nin0)))
        have F_coder_b11_0_31 := F_coder_b11_0_30.keep K31 (ninS ne_b11_0_b13 (ninS (Ne.symm ne_b10_b11_0) (ninS (Ne.symm ne_b7_b11_0) nin0)))
        have F_value_b11_0_31 := F_value_b11_0_30.keep K31 (ninS ne_b11_0_b13 (ninS (Ne.symm ne_b10_b11_0) (ninS (Ne.symm ne_b7_b11_0) nin0)))
        have E_b13_31 := E_b13_30.keep K31
        have E_b14_0_31 := E_b14_0_30.keep K31
        have A_b14_1_31 := A_b14_1_30.keep K31 (ninS (Ne.symm ne_b13_b14_1) (ninS (Ne.symm ne_b10_b14_1) (ninS (Ne.symm ne_b7_b14_1) nin0)))
        have F_coder_b14_0_31 := F_coder_b14_0_30.keep K31 (ninS (Ne.symm ne_b13_b14_0) (ninS (Ne.symm ne_b10_b14_0) (ninS (Ne.symm ne_b7_b14_0) nin0)))
        have F_value_b14_0_31 := F_value_b14_0_30.keep K31 (ninS (Ne.symm ne_b13_b14_0) (ninS (Ne.symm ne_b10_b14_0) (ninS (Ne.symm ne_b7_b14_0) nin0)))
        have E_b16_31 := E_b16_30.keep K31
        have E_b17_0_31 := E_b17_0_30.keep K31
        have A_b17_1_31 := A_b17_1_30.keep K31 (ninS (Ne.symm ne_b13_b17_1) (ninS (Ne.symm ne_b10_b17_1) (ninS (Ne.symm ne_b7_b17_1) nin0)))
        have F_coder_b17_0_31 := F_coder_b17_0_30.keep K31 (ninS (Ne.symm ne_b13_b17_0) (ninS (Ne.symm ne_b10_b17_0) (ninS (Ne.symm ne_b7_b17_0) nin0)))
        have F_value_b17_0_31 := F_value_b17_0_30.keep K31 (ninS (Ne.symm ne_b13_b17_0) (ninS (Ne.symm ne_b10_b17_0) (ninS (Ne.symm ne_b7_b17_0) nin0)))
        have F_parent_b16_31 := F_parent_b16_30.keep K31 (ninS (Ne.symm ne_b13_b16) (ninS (Ne.symm ne_b10_b16) (ninS (Ne.symm ne_b7_b16) nin0)))
        have F_previous_b16_31 := F_previous_b16_30.keep K31 (ninS (Ne.symm ne_b13_b16) (ninS (Ne.symm ne_b10_b16) (ninS (Ne.symm ne_b7_b16) nin0)))
        have F_next_b16_31 := F_next_b16_30.keep K31 (ninS (Ne.symm ne_b13_b16) (ninS (Ne.symm ne_b10_b16) (ninS (Ne.symm ne_b7_b16) nin0)))
        have F_firstChild_b16_31 := F_firstChild_b16_30.keep K31 (ninS (Ne.symm ne_b13_b16) (ninS (Ne.symm ne_b10_b16) (ninS (Ne.symm ne_b7_b16) nin0)))
        have F_lastChild_b16_31 := F_lastChild_b16_30.keep K31 (ninS (Ne.symm ne_b13_b16) (ninS (Ne.symm ne_b10_b16) (ninS (Ne.symm ne_b7_b16) nin0)))
        have F_name_b16_31 := F_name_b16_30.keep K31 (ninS (Ne.symm ne_b13_b16) (ninS (Ne.symm ne_b10_b16) (ninS (Ne.symm ne_b7_b16) nin0)))
        have O31 := O30.keep K31 (allS g_b13 (allS g_b10 (allS g_b7 all0)))
        have Z31 := Nat.le_trans Z30 K31.1
        have KK31 : Keep h0 T31.heap [] := KK30.trans K31 (allS (Or.inr sz_b13) (allS (Or.inr sz_b10) (allS (Or.inr sz_b7) all0)))
        clear Q30_0 E_b8_0_30 A_b8_1_30 F_coder_b8_0_30 F_value_b8_0_30 Q30_1 E_b11_0_30 A_b11_1_30 F_coder_b11_0_30 F_value_b11_0_30 E_b13_30 E_b14_0_30 A_b14_1_30 F_coder_b14_0_30 F_value_b14_0_30 E_b16_30 E_b17_0_30 A_b17_1_30 F_coder_b17_0_30 F_value_b17_0_30 F_parent_b16_30 F_previous_b16_30 F_next_b16_30 F_firstChild_b16_30 F_lastChild_b16_30 F_name_b16_30 O30 Z30 KK30 K31
        refine Go.trans st31 ?_
        show Go p e below _ (T31.setTop (mkF m 144 #[.val (.int p1), .val (.int p2), .val (.int (2 : Int32)), .val (.int v4), .val (.int v5), .val (.int v6), .val (.ref b7), .val (.ref b10), .val (.ref b13), .val (.ref b16), .val (.int (1 : Int32)), .unset] [(.ref b13)]))
        refine Go.step (fun t k => XS.aload X31.here hx rfl (hb hby at_144) rfl rfl k) ?_
        show Go p e below _ (T31.setTop (mkF m 146 #[.val (.int p1), .val (.int p2), .val (.int (2 : Int32)), .val (.int v4), .val (.int v5), .val (.int v6), .val (.ref b7), .val (.ref b10), .val (.ref b13), .val (.ref b16), .val (.int (1 : Int32)), .unset] [(.ref b13), (.ref b13)]))
        refine Go.step (fun t k => Jvm.RoadKit.acmp (g := (mkF m 146 #[.val (.int p1), .val (.int p2), .val (.int (2 : Int32)), .val (.int v4), .val (.int v5), .val (.int v6), .val (.ref b7), .val (.ref b10), .val (.ref b13), .val (.ref b16), .val (.int (1 : Int32)), .unset] [(.ref b13), (.ref b13)])) X31 hx rfl rfl rfl (pc0 := 146) (pc' := 149) (same := true) rfl (hb hby at_146) rfl (decide_eq_true rfl) (by decide) (by decide) k) ?_
        show Go p e below _ (T31.setTop (mkF m 149 #[.val (.int p1), .val (.int p2), .val (.int (2 : Int32)), .val (.int v4), .val (.int v5), .val (.int v6), .val (.ref b7), .val (.ref b10), .val (.ref b13), .val (.ref b16), .val (.int (1 : Int32)), .unset] []))
        refine Go.step (fun t k => XS.iconst X31.here hx rfl (hb hby at_149)  k) ?_
        show Go p e below _ (T31.setTop (mkF m 150 #[.val (.int p1), .val (.int p2), .val (.int (2 : Int32)), .val (.int v4), .val (.int v5), .val (.int v6), .val (.ref b7), .val (.ref b10), .val (.ref b13), .val (.ref b16), .val (.int (1 : Int32)), .unset] [(.int (1 : Int32))]))
        refine Go.step (fun t k => XS.goto X31.here hx rfl (pc0 := 150) (pc' := 154) rfl (hb hby at_150) (by decide) (by decide) k) ?_
        show Go p e below _ (T31.setTop (mkF m 154 #[.val (.int p1), .val (.int p2), .val (.int (2 : Int32)), .val (.int v4), .val (.int v5), .val (.int v6), .val (.ref b7), .val (.ref b10), .val (.ref b13), .val (.ref b16), .val (.int (1 : Int32)), .unset] [(.int (1 : Int32))]))
        refine Go.step (fun t k => XS.istore X31.here hx rfl (hb hby at_154) rfl (l' := #[.val (.int p1), .val (.int p2), .val (.int (2 : Int32)), .val (.int v4), .val (.int v5), .val (.int v6), .val (.ref b7), .val (.ref b10), .val (.ref b13), .val (.ref b16), .val (.int (1 : Int32)), .unset]) rfl k) ?_
        show Go p e below _ (T31.setTop (mkF m 156 #[.val (.int p1), .val (.int p2), .val (.int (2 : Int32)), .val (.int v4), .val (.int v5), .val (.int v6), .val (.ref b7), .val (.ref b10), .val (.ref b13), .val (.ref b16), .val (.int (1 : Int32)), .unset] []))
        refine Go.step (fun t k => XS.iloadN X31.here hx rfl (hb hby at_156) rfl k) ?_
        show Go p e below _ (T31.setTop (mkF m 157 #[.val (.int p1), .val (.int p2), .val (.int (2 : Int32)), .val (.int v4), .val (.int v5), .val (.int v6), .val (.ref b7), .val (.ref b10), .val (.ref b13), .val (.ref b16), .val (.int (1 : Int32)), .unset] [(.int (2 : Int32))]))
        refine Go.step (fun t k => XS.iconst X31.here hx rfl (hb hby at_157)  k) ?_
        show Go p e below _ (T31.setTop (mkF m 158 #[.val (.int p1), .val (.int p2), .val (.int (2 : Int32)), .val (.int v4), .val (.int v5), .val (.int v6), .val (.ref b7), .val (.ref b10), .val (.ref b13), .val (.ref b16), .val (.int (1 : Int32)), .unset] [(.int (3 : Int32)), (.int (2 : Int32))]))
        refine Go.step (fun t k => XS.icmpYes X31.here hx rfl (pc0 := 158) (pc' := 185) rfl (hb hby at_158) rfl (tlt (by decide : (2 : Int32) < (3 : Int32))).1 (by decide) (by decide) k) ?_
        show Go p e below _ (T31.setTop (mkF m 185 #[.val (.int p1), .val (.int p2), .val (.int (2 : Int32)), .val (.int v4), .val (.int v5), .val (.int v6), .val (.ref b7), .val (.ref b10), .val (.ref b13), .val (.ref b16), .val (.int (1 : Int32)), .unset] []))
        refine Go.step (fun t k => XS.aload X31.here hx rfl (hb hby at_185) rfl rfl k) ?_
        show Go p e below _ (T31.setTop (mkF m 187 #[.val (.int p1), .val (.int p2), .val (.int (2 : Int32)), .val (.int v4), .val (.int v5), .val (.int v6), .val (.ref b7), .val (.ref b10), .val (.ref b13), .val (.ref b16), .val (.int (1 : Int32)), .unset] [(.ref b7)]))
        obtain ⟨cq32, kq32, q32a, q32b, q32c⟩ := isOf hZ rfl Q31_0
        obtain ⟨_, _, ⟨T32, L32, k32, n32⟩, -, X32, ⟨Lc32, hQ32, l32, y32, z32⟩, st32⟩ := X31.virtualBack hx (y := (⟨"com/example/dataflow_to_dispatch/dataflowtodispatch/model/document/XmlElement", "children", "()Ljava/util/List;"⟩ : MethodName)) (z := (⟨"com/example/dataflow_to_dispatch/dataflowtodispatch/model/document/XmlElement", "children", "()Ljava/util/List;"⟩ : MethodName)) hown (mvT hZ (hw _ (List.mem_of_getElem? (i := 63) rfl))) (mvT hZ (hw _ (List.mem_of_getElem? (i := 64) rfl))) (notFace_of_selects (args := #[]) (mvT hZ (hw _ (List.mem_of_getElem? (i := 66) rfl)))) (mvT hZ (hw _ (List.mem_of_getElem? (i := 66) rfl))) (mvT hZ (hw _ (List.mem_of_getElem? (i := 65) rfl))) (by decide) (backOf (W := 0) (rm10_2 l Z a0 hw [] b7 b10 b13 oD T31.heap n0 Z31 Q31_1 Q31_3 Q31_7 Q31_4 Q31_11 O31 S_DEFAULTCAPACITY_EMPTY_ELEMENTDATA A_DEFAULTCAPACITY_EMPTY_ELEMENTDATA) hZ (hw _ (List.mem_of_getElem? (i := 67) rfl)) (hw _ (List.mem_of_getElem? (i := 2) rfl)) (by decide) (by decide)) q32a q32c (g := (mkF m 187 #[.val (.int p1), .val (.int p2), .val (.int (2 : Int32)), .val (.int v4), .val (.int v5), .val (.int v6), .val (.ref b7), .val (.ref b10), .val (.ref b13), .val (.ref b16), .val (.int (1 : Int32)), .unset] [(.ref b7)])) rfl (by rw [hml]; rfl) (Steps.refl _) (argsL := []) (rest := []) (lenOf pd_15 rfl) rfl (by show 2 * 0 + _ ≤ _; exact Nat.le_of_eq rfl) (hb hby at_187) (fun _ _ => ⟨rfl, rfl, (by decide : 20 + 2 ≤ _), (by decide : 76 + 13 ≤ _)⟩)
        dsimp only [Pt.U, Pt.locs, Pt.cells, Pt.slots] at X32 l32 y32 z32 st32 hQ32
        subst l32 y32 z32
        obtain ⟨b32_0, b32_1, rfl, N32q, K32, sz32_0, sz32_1, Q32_0, Q32_1, Q32_2, Q32_3, Q32_4⟩ := hQ32
        have N32 := Fr.app N31 N32q
        have g_b32_0 : n0 ≤ b32_0 := Nat.le_trans Z31 sz32_0
        have sz_b32_0 : h0.size ≤ b32_0 := Nat.le_trans KK31.1 sz32_0
        have ne_b7_b32_0 : b7 ≠ b32_0 := Nat.ne_of_lt (Nat.lt_of_lt_of_le Q31_0.lt sz32_0)
        have ne_b8_0_b32_0 : b8_0 ≠ b32_0 := Nat.ne_of_lt (Nat.lt_of_lt_of_le E_b8_0_31.lt sz32_0)
        have ne_b8_1_b32_0 : b8_1 ≠ b32_0 := Nat.ne_of_lt (Nat.lt_of_lt_of_le A_b8_1_31.lt sz32_0)
        have ne_b10_b32_0 : b10 ≠ b32_0 := Nat.ne_of_lt (Nat.lt_of_lt_of_le Q31_3.lt sz32_0)
        have ne_b11_0_b32_0 : b11_0 ≠ b32_0 := Nat.ne_of_lt (Nat.lt_of_lt_of_le E_b11_0_31.lt sz32_0)
        have ne_b11_1_b32_0 : b11_1 ≠ b32_0 := Nat.ne_of_lt (Nat.lt_of_lt_of_le A_b11_1_31.lt sz32_0)
        have ne_b13_b32_0 : b13 ≠ b32_0 := Nat.ne_of_lt (Nat.lt_of_lt_of_le Q31_4.lt sz32_0)
        have ne_b14_0_b32_0 : b14_0 ≠ b32_0 := Nat.ne_of_lt (Nat.lt_of_lt_of_le E_b14_0_31.lt sz32_0)
        have ne_b14_1_b32_0 : b14_1 ≠ b32_0 := Nat.ne_of_lt (Nat.lt_of_lt_of_le A_b14_1_31.lt sz32_0)
        have ne_b16_b32_0 : b16 ≠ b32_0 := Nat.ne_of_lt (Nat.lt_of_lt_of_le E_b16_31.lt sz32_0)
        have ne_b17_0_b32_0 : b17_0 ≠ b32_0 := Nat.ne_of_lt (Nat.lt_of_lt_of_le E_b17_0_31.lt sz32_0)
        have ne_b17_1_b32_0 : b17_1 ≠ b32_0 := Nat.ne_of_lt (Nat.lt_of_lt_of_le A_b17_1_31.lt sz32_0)
        have g_b32_1 : n0 ≤ b32_1 := Nat.le_trans Z31 sz32_1
        have sz_b32_1 : h0.size ≤ b32_1 := Nat.le_trans KK31.1 sz32_1
        have ne_b7_b32_1 : b7 ≠ b32_1 := Nat.ne_of_lt (Nat.lt_of_lt_of_le Q31_0.lt sz32_1)
        have ne_b8_0_b32_1 : b8_0 ≠ b32_1 := Nat.ne_of_lt (Nat.lt_of_lt_of_le E_b8_0_31.lt sz32_1)
        have ne_b8_1_b32_1 : b8_1 ≠ b32_1 := Nat.ne_of_lt (Nat.lt_of_lt_of_le A_b8_1_31.lt sz32_1)
        have ne_b10_b32_1 : b10 ≠ b32_1 := Nat.ne_of_lt (Nat.lt_of_lt_of_le Q31_3.lt sz32_1)
        have ne_b11_0_b32_1 : b11_0 ≠ b32_1 := Nat.ne_of_lt (Nat.lt_of_lt_of_le E_b11_0_31.lt sz32_1)
        have ne_b11_1_b32_1 : b11_1 ≠ b32_1 := Nat.ne_of_lt (Nat.lt_of_lt_of_le A_b11_1_31.lt sz32_1)
        have ne_b13_b32_1 : b13 ≠ b32_1 := Nat.ne_of_lt (Nat.lt_of_lt_of_le Q31_4.lt sz32_1)
        have ne_b14_0_b32_1 : b14_0 ≠ b32_1 := Nat.ne_of_lt (Nat.lt_of_lt_of_le E_b14_0_31.lt sz32_1)
        have ne_b14_1_b32_1 : b14_1 ≠ b32_1 := Nat.ne_of_lt (Nat.lt_of_lt_of_le A_b14_1_31.lt sz32_1)
        have ne_b16_b32_1 : b16 ≠ b32_1 := Nat.ne_of_lt (Nat.lt_of_lt_of_le E_b16_31.lt sz32_1)
        have ne_b17_0_b32_1 : b17_0 ≠ b32_1 := Nat.ne_of_lt (Nat.lt_of_lt_of_le E_b17_0_31.lt sz32_1)
        have ne_b17_1_b32_1 : b17_1 ≠ b32_1 := Nat.ne_of_lt (Nat.lt_of_lt_of_le A_b17_1_31.lt sz32_1)
        have E_b7_32 := Q31_0.keep K32
        have E_b8_0_32 := E_b8_0_31.keep K32
        have A_b8_1_32 := A_b8_1_31.keep K32 nin0
        have F_coder_b8_0_32 := F_coder_b8_0_31.keep K32 nin0
        have F_value_b8_0_32 := F_value_b8_0_31.keep K32 nin0
        have E_b10_32 := Q31_3.keep K32
        have E_b11_0_32 := E_b11_0_31.keep K32
        have A_b11_1_32 := A_b11_1_31.keep K32 nin0
        have F_coder_b11_0_32 := F_coder_b11_0_31.keep K32 nin0
        have F_value_b11_0_32 := F_value_b11_0_31.keep K32 nin0
        have E_b13_32 := Q31_4.keep K32
        have E_b14_0_32 := E_b14_0_31.keep K32
        have A_b14_1_32 := A_b14_1_31.keep K32 nin0
        have F_coder_b14_0_32 := F_coder_b14_0_31.keep K32 nin0
        have F_value_b14_0_32 := F_value_b14_0_31.keep K32 nin0
        have E_b16_32 := E_b16_31.keep K32
        have E_b17_0_32 := E_b17_0_31.keep K32
        have A_b17_1_32 := A_b17_1_31.keep K32 nin0
        have F_coder_b17_0_32 := F_coder_b17_0_31.keep K32 nin0
        have F_value_b17_0_32 := F_value_b17_0_31.keep K32 nin0
        have F_parent_b16_32 := F_parent_b16_31.keep K32 nin0
        have F_previous_b16_32 := F_previous_b16_31.keep K32 nin0
        have F_next_b16_32 := F_next_b16_31.keep K32 nin0
        have F_firstChild_b16_32 := F_firstChild_b16_31.keep K32 nin0
        have F_lastChild_b16_32 := F_lastChild_b16_31.keep K32 nin0
        have F_name_b16_32 := F_name_b16_31.keep K32 nin0
        have F_firstChild_b7_32 := Q31_1.keep K32 nin0
        have F_lastChild_b7_32 := Q31_2.keep K32 nin0
        have F_name_b10_32 := Q31_5.keep K32 nin0
        have F_previous_b10_32 := Q31_6.keep K32 nin0
        have F_next_b10_32 := Q31_7.keep K32 nin0
        have F_name_b13_32 := Q31_8.keep K32 nin0
        have F_parent_b13_32 := Q31_9.keep K32 nin0
        have F_previous_b13_32 := Q31_10.keep K32 nin0
        have F_next_b13_32 := Q31_11.keep K32 nin0
        have O32 := O31.keep K32 all0
        have Z32 := Nat.le_trans Z31 K32.1
        have KK32 : Keep h0 T32.heap [] := KK31.trans K32 all0
        clear Q31_0 E_b8_0_31 A_b8_1_31 F_coder_b8_0_31 F_value_b8_0_31 Q31_3 E_b11_0_31 A_b11_1_31 F_coder_b11_0_31 F_value_b11_0_31 Q31_4 E_b14_0_31 A_b14_1_31 F_coder_b14_0_31 F_value_b14_0_31 E_b16_31 E_b17_0_31 A_b17_1_31 F_coder_b17_0_31 F_value_b17_0_31 F_parent_b16_31 F_previous_b16_31 F_next_b16_31 F_firstChild_b16_31 F_lastChild_b16_31 F_name_b16_31 Q31_1 Q31_2 Q31_5 Q31_6 Q31_7 Q31_8 Q31_9 Q31_10 Q31_11 O31 Z31 KK31 K32
        refine Go.trans st32 ?_
        show Go p e below _ (T32.setTop (mkF m 190 #[.val (.int p1), .val (.int p2), .val (.int (2 : Int32)), .val (.int v4), .val (.int v5), .val (.int v6), .val (.ref b7), .val (.ref b10), .val (.ref b13), .val (.ref b16), .val (.int (1 : Int32)), .unset] [(.ref b32_0)]))
        refine Go.step (fun t k => XS.astore X32.here hx rfl (hb hby at_190) rfl rfl (l' := #[.val (.int p1), .val (.int p2), .val (.int (2 : Int32)), .val (.int v4), .val (.int v5), .val (.int v6), .val (.ref b7), .val (.ref b10), .val (.ref b13), .val (.ref b16), .val (.int (1 : Int32)), .val (.ref b32_0)]) rfl k) ?_
        show Go p e below _ (T32.setTop (mkF m 192 #[.val (.int p1), .val (.int p2), .val (.int (2 : Int32)), .val (.int v4), .val (.int v5), .val (.int v6), .val (.ref b7), .val (.ref b10), .val (.ref b13), .val (.ref b16), .val (.int (1 : Int32)), .val (.ref b32_0)] []))
        refine Go.step (fun t k => XS.aload X32.here hx rfl (hb hby at_192) rfl rfl k) ?_
        show Go p e below _ (T32.setTop (mkF m 194 #[.val (.int p1), .val (.int p2), .val (.int (2 : Int32)), .val (.int v4), .val (.int v5), .val (.int v6), .val (.ref b7), .val (.ref b10), .val (.ref b13), .val (.ref b16), .val (.int (1 : Int32)), .val (.ref b32_0)] [(.ref b32_0)]))
        obtain ⟨cq33, kq33, q33a, q33b, q33c⟩ := isOf hZ rfl Q32_0
        obtain ⟨_, _, ⟨T33, L33, k33, n33⟩, -, X33, ⟨Lc33, hQ33, l33, y33, z33⟩, st33⟩ := X32.interfaceBack hx (xi := (⟨"java/util/List", "size", "()I"⟩ : MethodName)) (y := (⟨"java/util/ArrayList", "size", "()I"⟩ : MethodName)) hown (mvT hZ (hw _ (List.mem_of_getElem? (i := 70) rfl))) (mvT hZ (hw _ (List.mem_of_getElem? (i := 71) rfl))) (mvT hZ (hw _ (List.mem_of_getElem? (i := 72) rfl))) (mvT hZ (hw _ (List.mem_of_getElem? (i := 73) rfl))) (mvT hZ (hw _ (List.mem_of_getElem? (i := 74) rfl))) (mvT hZ (hw _ (List.mem_of_getElem? (i := 75) rfl))) (mvT hZ (hw _ (List.mem_of_getElem? (i := 76) rfl))) (mvT hZ (hw _ (List.mem_of_getElem? (i := 77) rfl))) (by decide) (backOf (W := 0) (rm11 l Z a0 hw [] b32_0 (2 : Int32) T32.heap n0 Z32 Q32_1) hZ (hw _ (List.mem_of_getElem? (i := 78) rfl)) (hw _ (List.mem_of_getElem? (i := 35) rfl)) (by decide) (by decide)) q33a q33b q33c (g := (mkF m 194 #[.val (.int p1), .val (.int p2), .val (.int (2 : Int32)), .val (.int v4), .val (.int v5), .val (.int v6), .val (.ref b7), .val (.ref b10), .val (.ref b13), .val (.ref b16), .val (.int (1 : Int32)), .val (.ref b32_0)] [(.ref b32_0)])) rfl (by rw [hml]; rfl) (Steps.refl _) (argsL := []) (rest := []) (lenOf pd_16 rfl) rfl (by show 2 * 0 + _ ≤ _; exact Nat.le_of_eq rfl) (hb hby at_194) (fun _ _ => ⟨rfl, rfl, (by decide : 22 + 0 ≤ _), (by decide : 89 + 0 ≤ _)⟩)
        dsimp only [Pt.U, Pt.locs, Pt.cells, Pt.slots] at X33 l33 y33 z33 st33 hQ33
        subst l33 y33 z33
        obtain ⟨rfl, N33q, e33⟩ := hQ33
        have N33 := Fr.app N32 N33q
        refine Go.trans st33 ?_
        show Go p e below _ (T33.setTop (mkF m 199 #[.val (.int p1), .val (.int p2), .val (.int (2 : Int32)), .val (.int v4), .val (.int v5), .val (.int v6), .val (.ref b7), .val (.ref b10), .val (.ref b13), .val (.ref b16), .val (.int (1 : Int32)), .val (.ref b32_0)] [(.int (2 : Int32))]))
        refine Go.step (fun t k => XS.iloadN X33.here hx rfl (hb hby at_199) rfl k) ?_
        show Go p e below _ (T33.setTop (mkF m 200 #[.val (.int p1), .val (.int p2), .val (.int (2 : Int32)), .val (.int v4), .val (.int v5), .val (.int v6), .val (.ref b7), .val (.ref b10), .val (.ref b13), .val (.ref b16), .val (.int (1 : Int32)), .val (.ref b32_0)] [(.int (2 : Int32)), (.int (2 : Int32))]))
        refine Go.step (fun t k => XS.icmpYes X33.here hx rfl (pc0 := 200) (pc' := 205) rfl (hb hby at_200) rfl (teq (rfl : (2 : Int32) = (2 : Int32))).1 (by decide) (by decide) k) ?_
        show Go p e below _ (T33.setTop (mkF m 205 #[.val (.int p1), .val (.int p2), .val (.int (2 : Int32)), .val (.int v4), .val (.int v5), .val (.int v6), .val (.ref b7), .val (.ref b10), .val (.ref b13), .val (.ref b16), .val (.int (1 : Int32)), .val (.ref b32_0)] []))
        refine Go.step (fun t k => XS.iloadN X33.here hx rfl (hb hby at_205) rfl k) ?_
        show Go p e below _ (T33.setTop (mkF m 206 #[.val (.int p1), .val (.int p2), .val (.int (2 : Int32)), .val (.int v4), .val (.int v5), .val (.int v6), .val (.ref b7), .val (.ref b10), .val (.ref b13), .val (.ref b16), .val (.int (1 : Int32)), .val (.ref b32_0)] [(.int (2 : Int32))]))
        refine Go.step (fun t k => XS.iconst X33.here hx rfl (hb hby at_206)  k) ?_
        show Go p e below _ (T33.setTop (mkF m 207 #[.val (.int p1), .val (.int p2), .val (.int (2 : Int32)), .val (.int v4), .val (.int v5), .val (.int v6), .val (.ref b7), .val (.ref b10), .val (.ref b13), .val (.ref b16), .val (.int (1 : Int32)), .val (.ref b32_0)] [(.int (1 : Int32)), (.int (2 : Int32))]))
        refine Go.step (fun t k => XS.icmpNo X33.here hx rfl (hb hby at_207) rfl (flt (by decide : ¬ ((2 : Int32) < (1 : Int32)))).1 k) ?_
        show Go p e below _ (T33.setTop (mkF m 210 #[.val (.int p1), .val (.int p2), .val (.int (2 : Int32)), .val (.int v4), .val (.int v5), .val (.int v6), .val (.ref b7), .val (.ref b10), .val (.ref b13), .val (.ref b16), .val (.int (1 : Int32)), .val (.ref b32_0)] []))
        refine Go.step (fun t k => XS.aload X33.here hx rfl (hb hby at_210) rfl rfl k) ?_
        show Go p e below _ (T33.setTop (mkF m 212 #[.val (.int p1), .val (.int p2), .val (.int (2 : Int32)), .val (.int v4), .val (.int v5), .val (.int v6), .val (.ref b7), .val (.ref b10), .val (.ref b13), .val (.ref b16), .val (.int (1 : Int32)), .val (.ref b32_0)] [(.ref b32_0)]))
        refine Go.step (fun t k => XS.iconst X33.here hx rfl (hb hby at_212)  k) ?_
        show Go p e below _ (T33.setTop (mkF m 213 #[.val (.int p1), .val (.int p2), .val (.int (2 : Int32)), .val (.int v4), .val (.int v5), .val (.int v6), .val (.ref b7), .val (.ref b10), .val (.ref b13), .val (.ref b16), .val (.int (1 : Int32)), .val (.ref b32_0)] [(.int (0 : Int32)), (.ref b32_0)]))
        obtain ⟨cq34, kq34, q34a, q34b, q34c⟩ := isOf hZ e33 Q32_0
        obtain ⟨_, _, ⟨T34, L34, k34, n34⟩, -, X34, ⟨Lc34, hQ34, l34, y34, z34⟩, st34⟩ := X33.interfaceBack hx (xi := (⟨"java/util/List", "get", "(I)Ljava/lang/Object;"⟩ : MethodName)) (y := (⟨"java/util/ArrayList", "get", "(I)Ljava/lang/Object;"⟩ : MethodName)) hown (mvT hZ (hw _ (List.mem_of_getElem? (i := 130) rfl))) (mvT hZ (hw _ (List.mem_of_getElem? (i := 131) rfl))) (mvT hZ (hw _ (List.mem_of_getElem? (i := 132) rfl))) (mvT hZ (hw _ (List.mem_of_getElem? (i := 133) rfl))) (mvT hZ (hw _ (List.mem_of_getElem? (i := 134) rfl))) (mvT hZ (hw _ (List.mem_of_getElem? (i := 135) rfl))) (mvT hZ (hw _ (List.mem_of_getElem? (i := 136) rfl))) (mvT hZ (hw _ (List.mem_of_getElem? (i := 77) rfl))) (by decide) (backOf (W := 0) (rm19_2_0 l Z a0 hw [] b32_0 b32_1 b10 b13 T32.heap n0 Z32 Q32_2 Q32_4 Q32_0 Q32_1) hZ (hw _ (List.mem_of_getElem? (i := 137) rfl)) (hw _ (List.mem_of_getElem? (i := 35) rfl)) (by decide) (by decide)) q34a q34b q34c (g := (mkF m 213 #[.val (.int p1), .val (.int p2), .val (.int (2 : Int32)), .val (.int v4), .val (.int v5), .val (.int v6), .val (.ref b7), .val (.ref b10), .val (.ref b13), .val (.ref b16), .val (.int (1 : Int32)), .val (.ref b32_0)] [(.int (0 : Int32)), (.ref b32_0)])) rfl (by rw [hml]; rfl) (Steps.refl _) (argsL := [(.int (0 : Int32))]) (rest := []) (lenOf pd_10 rfl) rfl (by show 2 * 0 + _ ≤ _; exact Nat.le_of_eq rfl) (hb hby at_213) (fun _ _ => ⟨rfl, e33, (by decide : 22 + 0 ≤ _), (by decide : 89 + 0 ≤ _)⟩)
        dsimp only [Pt.U, Pt.locs, Pt.cells, Pt.slots] at X34 l34 y34 z34 st34 hQ34
        subst l34 y34 z34
        obtain ⟨rfl, N34q, e34⟩ := hQ34
        have N34 := Fr.app N33 N34q
        refine Go.trans st34 ?_
        show Go p e below _ (T34.setTop (mkF m 218 #[.val (.int p1), .val (.int p2), .val (.int (2 : Int32)), .val (.int v4), .val (.int v5), .val (.int v6), .val (.ref b7), .val (.ref b10), .val (.ref b13), .val (.ref b16), .val (.int (1 : Int32)), .val (.ref b32_0)] [(.ref b10)]))
        refine Go.step (fun t k => XS.aload X34.here hx rfl (hb hby at_218) rfl rfl k) ?_
        show Go p e below _ (T34.setTop (mkF m 220 #[.val (.int p1), .val (.int p2), .val (.int (2 : Int32)), .val (.int v4), .val (.int v5), .val (.int v6), .val (.ref b7), .val (.ref b10), .val (.ref b13), .val (.ref b16), .val (.int (1 : Int32)), .val (.ref b32_0)] [(.ref b10), (.ref b10)]))
        refine Go.step (fun t k => Jvm.RoadKit.acmp (g := (mkF m 220 #[.val (.int p1), .val (.int p2), .val (.int (2 : Int32)), .val (.int v4), .val (.int v5), .val (.int v6), .val (.ref b7), .val (.ref b10), .val (.ref b13), .val (.ref b16), .val (.int (1 : Int32)), .val (.ref b32_0)] [(.ref b10), (.ref b10)])) X34 hx rfl rfl rfl (pc0 := 220) (pc' := 225) (same := true) rfl (hb hby at_220) rfl (decide_eq_true rfl) (by decide) (by decide) k) ?_
        show Go p e below _ (T34.setTop (mkF m 225 #[.val (.int p1), .val (.int p2), .val (.int (2 : Int32)), .val (.int v4), .val (.int v5), .val (.int v6), .val (.ref b7), .val (.ref b10), .val (.ref b13), .val (.ref b16), .val (.int (1 : Int32)), .val (.ref b32_0)] []))
        refine Go.step (fun t k => XS.iloadN X34.here hx rfl (hb hby at_225) rfl k) ?_
        show Go p e below _ (T34.setTop (mkF m 226 #[.val (.int p1), .val (.int p2), .val (.int (2 : Int32)), .val (.int v4), .val (.int v5), .val (.int v6), .val (.ref b7), .val (.ref b10), .val (.ref b13), .val (.ref b16), .val (.int (1 : Int32)), .val (.ref b32_0)] [(.int (2 : Int32))]))
        refine Go.step (fun t k => XS.iconst X34.here hx rfl (hb hby at_226)  k) ?_
        show Go p e below _ (T34.setTop (mkF m 227 #[.val (.int p1), .val (.int p2), .val (.int (2 : Int32)), .val (.int v4), .val (.int v5), .val (.int v6), .val (.ref b7), .val (.ref b10), .val (.ref b13), .val (.ref b16), .val (.int (1 : Int32)), .val (.ref b32_0)] [(.int (2 : Int32)), (.int (2 : Int32))]))
        refine Go.step (fun t k => XS.icmpNo X34.here hx rfl (hb hby at_227) rfl (flt (by decide : ¬ ((2 : Int32) < (2 : Int32)))).1 k) ?_
        show Go p e below _ (T34.setTop (mkF m 230 #[.val (.int p1), .val (.int p2), .val (.int (2 : Int32)), .val (.int v4), .val (.int v5), .val (.int v6), .val (.ref b7), .val (.ref b10), .val (.ref b13), .val (.ref b16), .val (.int (1 : Int32)), .val (.ref b32_0)] []))
        refine Go.step (fun t k => XS.aload X34.here hx rfl (hb hby at_230) rfl rfl k) ?_
        show Go p e below _ (T34.setTop (mkF m 232 #[.val (.int p1), .val (.int p2), .val (.int (2 : Int32)), .val (.int v4), .val (.int v5), .val (.int v6), .val (.ref b7), .val (.ref b10), .val (.ref b13), .val (.ref b16), .val (.int (1 : Int32)), .val (.ref b32_0)] [(.ref b32_0)]))
        refine Go.step (fun t k => XS.iconst X34.here hx rfl (hb hby at_232)  k) ?_
        show Go p e below _ (T34.setTop (mkF m 233 #[.val (.int p1), .val (.int p2), .val (.int (2 : Int32)), .val (.int v4), .val (.int v5), .val (.int v6), .val (.ref b7), .val (.ref b10), .val (.ref b13), .val (.ref b16), .val (.int (1 : Int32)), .val (.ref b32_0)] [(.int (1 : Int32)), (.ref b32_0)]))
        obtain ⟨cq35, kq35, q35a, q35b, q35c⟩ := isOf hZ e34 Q32_0
        obtain ⟨_, _, ⟨T35, L35, k35, n35⟩, -, X35, ⟨Lc35, hQ35, l35, y35, z35⟩, st35⟩ := X34.interfaceBack hx (xi := (⟨"java/util/List", "get", "(I)Ljava/lang/Object;"⟩ : MethodName)) (y := (⟨"java/util/ArrayList", "get", "(I)Ljava/lang/Object;"⟩ : MethodName)) hown (mvT hZ (hw _ (List.mem_of_getElem? (i := 130) rfl))) (mvT hZ (hw _ (List.mem_of_getElem? (i := 131) rfl))) (mvT hZ (hw _ (List.mem_of_getElem? (i := 132) rfl))) (mvT hZ (hw _ (List.mem_of_getElem? (i := 133) rfl))) (mvT hZ (hw _ (List.mem_of_getElem? (i := 134) rfl))) (mvT hZ (hw _ (List.mem_of_getElem? (i := 135) rfl))) (mvT hZ (hw _ (List.mem_of_getElem? (i := 136) rfl))) (mvT hZ (hw _ (List.mem_of_getElem? (i := 77) rfl))) (by decide) (backOf (W := 0) (rm19_2_1 l Z a0 hw [] b32_0 b32_1 b10 b13 T32.heap n0 Z32 Q32_2 Q32_4 Q32_0 Q32_1) hZ (hw _ (List.mem_of_getElem? (i := 137) rfl)) (hw _ (List.mem_of_getElem? (i := 35) rfl)) (by decide) (by decide)) q35a q35b q35c (g := (mkF m 233 #[.val (.int p1), .val (.int p2), .val (.int (2 : Int32)), .val (.int v4), .val (.int v5), .val (.int v6), .val (.ref b7), .val (.ref b10), .val (.ref b13), .val (.ref b16), .val (.int (1 : Int32)), .val (.ref b32_0)] [(.int (1 : Int32)), (.ref b32_0)])) rfl (by rw [hml]; rfl) (Steps.refl _) (argsL := [(.int (1 : Int32))]) (rest := []) (lenOf pd_10 rfl) rfl (by show 2 * 0 + _ ≤ _; exact Nat.le_of_eq rfl) (hb hby at_233) (fun _ _ => ⟨rfl, e34, (by decide : 22 + 0 ≤ _), (by decide : 89 + 0 ≤ _)⟩)
        dsimp only [Pt.U, Pt.locs, Pt.cells, Pt.slots] at X35 l35 y35 z35 st35 hQ35
        subst l35 y35 z35
        obtain ⟨rfl, N35q, e35⟩ := hQ35
        have N35 := Fr.app N34 N35q
        refine Go.trans st35 ?_
        show Go p e below _ (T35.setTop (mkF m 238 #[.val (.int p1), .val (.int p2), .val (.int (2 : Int32)), .val (.int v4), .val (.int v5), .val (.int v6), .val (.ref b7), .val (.ref b10), .val (.ref b13), .val (.ref b16), .val (.int (1 : Int32)), .val (.ref b32_0)] [(.ref b13)]))
        refine Go.step (fun t k => XS.aload X35.here hx rfl (hb hby at_238) rfl rfl k) ?_
        show Go p e below _ (T35.setTop (mkF m 240 #[.val (.int p1), .val (.int p2), .val (.int (2 : Int32)), .val (.int v4), .val (.int v5), .val (.int v6), .val (.ref b7), .val (.ref b10), .val (.ref b13), .val (.ref b16), .val (.int (1 : Int32)), .val (.ref b32_0)] [(.ref b13), (.ref b13)]))
        refine Go.step (fun t k => Jvm.RoadKit.acmp (g := (mkF m 240 #[.val (.int p1), .val (.int p2), .val (.int (2 : Int32)), .val (.int v4), .val (.int v5), .val (.int v6), .val (.ref b7), .val (.ref b10), .val (.ref b13), .val (.ref b16), .val (.int (1 : Int32)), .val (.ref b32_0)] [(.ref b13), (.ref b13)])) X35 hx rfl rfl rfl (pc0 := 240) (pc' := 245) (same := true) rfl (hb hby at_240) rfl (decide_eq_true rfl) (by decide) (by decide) k) ?_
        show Go p e below _ (T35.setTop (mkF m 245 #[.val (.int p1), .val (.int p2), .val (.int (2 : Int32)), .val (.int v4), .val (.int v5), .val (.int v6), .val (.ref b7), .val (.ref b10), .val (.ref b13), .val (.ref b16), .val (.int (1 : Int32)), .val (.ref b32_0)] []))
        refine Go.step (fun t k => XS.iloadN X35.here hx rfl (hb hby at_245) rfl k) ?_
        show Go p e below _ (T35.setTop (mkF m 246 #[.val (.int p1), .val (.int p2), .val (.int (2 : Int32)), .val (.int v4), .val (.int v5), .val (.int v6), .val (.ref b7), .val (.ref b10), .val (.ref b13), .val (.ref b16), .val (.int (1 : Int32)), .val (.ref b32_0)] [(.int (2 : Int32))]))
        refine Go.step (fun t k => XS.iconst X35.here hx rfl (hb hby at_246)  k) ?_
        show Go p e below _ (T35.setTop (mkF m 247 #[.val (.int p1), .val (.int p2), .val (.int (2 : Int32)), .val (.int v4), .val (.int v5), .val (.int v6), .val (.ref b7), .val (.ref b10), .val (.ref b13), .val (.ref b16), .val (.int (1 : Int32)), .val (.ref b32_0)] [(.int (3 : Int32)), (.int (2 : Int32))]))
        refine Go.step (fun t k => XS.icmpYes X35.here hx rfl (pc0 := 247) (pc' := 265) rfl (hb hby at_247) rfl (tlt (by decide : (2 : Int32) < (3 : Int32))).1 (by decide) (by decide) k) ?_
        show Go p e below _ (T35.setTop (mkF m 265 #[.val (.int p1), .val (.int p2), .val (.int (2 : Int32)), .val (.int v4), .val (.int v5), .val (.int v6), .val (.ref b7), .val (.ref b10), .val (.ref b13), .val (.ref b16), .val (.int (1 : Int32)), .val (.ref b32_0)] []))
        refine Go.step (fun t k => XS.iloadN X35.here hx rfl (hb hby at_265) rfl k) ?_
        show Go p e below _ (T35.setTop (mkF m 266 #[.val (.int p1), .val (.int p2), .val (.int (2 : Int32)), .val (.int v4), .val (.int v5), .val (.int v6), .val (.ref b7), .val (.ref b10), .val (.ref b13), .val (.ref b16), .val (.int (1 : Int32)), .val (.ref b32_0)] [(.int (2 : Int32))]))
        refine Go.step (fun t k => XS.iconst X35.here hx rfl (hb hby at_266)  k) ?_
        show Go p e below _ (T35.setTop (mkF m 267 #[.val (.int p1), .val (.int p2), .val (.int (2 : Int32)), .val (.int v4), .val (.int v5), .val (.int v6), .val (.ref b7), .val (.ref b10), .val (.ref b13), .val (.ref b16), .val (.int (1 : Int32)), .val (.ref b32_0)] [(.int (1 : Int32)), (.int (2 : Int32))]))
        refine Go.step (fun t k => XS.icmpNo X35.here hx rfl (hb hby at_267) rfl (flt (by decide : ¬ ((2 : Int32) < (1 : Int32)))).1 k) ?_
        show Go p e below _ (T35.setTop (mkF m 270 #[.val (.int p1), .val (.int p2), .val (.int (2 : Int32)), .val (.int v4), .val (.int v5), .val (.int v6), .val (.ref b7), .val (.ref b10), .val (.ref b13), .val (.ref b16), .val (.int (1 : Int32)), .val (.ref b32_0)] []))
        refine Go.step (fun t k => XS.aload X35.here hx rfl (hb hby at_270) rfl rfl k) ?_
        show Go p e below _ (T35.setTop (mkF m 272 #[.val (.int p1), .val (.int p2), .val (.int (2 : Int32)), .val (.int v4), .val (.int v5), .val (.int v6), .val (.ref b7), .val (.ref b10), .val (.ref b13), .val (.ref b16), .val (.int (1 : Int32)), .val (.ref b32_0)] [(.ref b10)]))
        obtain ⟨cq36, kq36, q36a, q36b, q36c⟩ := isOf hZ e35 E_b10_32
        obtain ⟨_, _, ⟨T36, L36, k36, n36⟩, -, X36, ⟨Lc36, hQ36, l36, y36, z36⟩, st36⟩ := X35.virtualBack hx (y := (⟨"com/example/dataflow_to_dispatch/dataflowtodispatch/model/document/XmlElement", "position", "()I"⟩ : MethodName)) (z := (⟨"com/example/dataflow_to_dispatch/dataflowtodispatch/model/document/XmlElement", "position", "()I"⟩ : MethodName)) hown (mvT hZ (hw _ (List.mem_of_getElem? (i := 151) rfl))) (mvT hZ (hw _ (List.mem_of_getElem? (i := 152) rfl))) (notFace_of_selects (args := #[]) (mvT hZ (hw _ (List.mem_of_getElem? (i := 154) rfl)))) (mvT hZ (hw _ (List.mem_of_getElem? (i := 154) rfl))) (mvT hZ (hw _ (List.mem_of_getElem? (i := 153) rfl))) (by decide) (backOf (W := 0) (rm23_0 l Z a0 hw [] b10 T32.heap n0 Z32 F_previous_b10_32) hZ (hw _ (List.mem_of_getElem? (i := 155) rfl)) (hw _ (List.mem_of_getElem? (i := 2) rfl)) (by decide) (by decide)) q36a q36c (g := (mkF m 272 #[.val (.int p1), .val (.int p2), .val (.int (2 : Int32)), .val (.int v4), .val (.int v5), .val (.int v6), .val (.ref b7), .val (.ref b10), .val (.ref b13), .val (.ref b16), .val (.int (1 : Int32)), .val (.ref b32_0)] [(.ref b10)])) rfl (by rw [hml]; rfl) (Steps.refl _) (argsL := []) (rest := []) (lenOf pd_16 rfl) rfl (by show 2 * 0 + _ ≤ _; exact Nat.le_of_eq rfl) (hb hby at_272) (fun _ _ => ⟨rfl, e35, (by decide : 22 + 0 ≤ _), (by decide : 89 + 0 ≤ _)⟩)
        dsimp only [Pt.U, Pt.locs, Pt.cells, Pt.slots] at X36 l36 y36 z36 st36 hQ36
        subst l36 y36 z36
        obtain ⟨rfl, N36q, e36⟩ := hQ36
        have N36 := Fr.app N35 N36q
        refine Go.trans st36 ?_
        show Go p e below _ (T36.setTop (mkF m 275 #[.val (.int p1), .val (.int p2), .val (.int (2 : Int32)), .val (.int v4), .val (.int v5), .val (.int v6), .val (.ref b7), .val (.ref b10), .val (.ref b13), .val (.ref b16), .val (.int (1 : Int32)), .val (.ref b32_0)] [(.int f23_0)]))
        refine Go.step (fun t k => XS.iconst X36.here hx rfl (hb hby at_275)  k) ?_
        show Go p e below _ (T36.setTop (mkF m 276 #[.val (.int p1), .val (.int p2), .val (.int (2 : Int32)), .val (.int v4), .val (.int v5), .val (.int v6), .val (.ref b7), .val (.ref b10), .val (.ref b13), .val (.ref b16), .val (.int (1 : Int32)), .val (.ref b32_0)] [(.int (1 : Int32)), (.int f23_0)]))
        by_cases hc37 : f23_0 = (1 : Int32)
        · refine Go.step (fun t k => XS.icmpYes X36.here hx rfl (pc0 := 276) (pc' := 281) rfl (hb hby at_276) rfl (teq hc37).1 (by decide) (by decide) k) ?_
          show Go p e below _ (T36.setTop (mkF m 281 #[.val (.int p1), .val (.int p2), .val (.int (2 : Int32)), .val (.int v4), .val (.int v5), .val (.int v6), .val (.ref b7), .val (.ref b10), .val (.ref b13), .val (.ref b16), .val (.int (1 : Int32)), .val (.ref b32_0)] []))
          refine Go.step (fun t k => XS.iloadN X36.here hx rfl (hb hby at_281) rfl k) ?_
          show Go p e below _ (T36.setTop (mkF m 282 #[.val (.int p1), .val (.int p2), .val (.int (2 : Int32)), .val (.int v4), .val (.int v5), .val (.int v6), .val (.ref b7), .val (.ref b10), .val (.ref b13), .val (.ref b16), .val (.int (1 : Int32)), .val (.ref b32_0)] [(.int (2 : Int32))]))
          refine Go.step (fun t k => XS.iconst X36.here hx rfl (hb hby at_282)  k) ?_
          show Go p e below _ (T36.setTop (mkF m 283 #[.val (.int p1), .val (.int p2), .val (.int (2 : Int32)), .val (.int v4), .val (.int v5), .val (.int v6), .val (.ref b7), .val (.ref b10), .val (.ref b13), .val (.ref b16), .val (.int (1 : Int32)), .val (.ref b32_0)] [(.int (2 : Int32)), (.int (2 : Int32))]))
          refine Go.step (fun t k => XS.icmpNo X36.here hx rfl (hb hby at_283) rfl (flt (by decide : ¬ ((2 : Int32) < (2 : Int32)))).1 k) ?_
          show Go p e below _ (T36.setTop (mkF m 286 #[.val (.int p1), .val (.int p2), .val (.int (2 : Int32)), .val (.int v4), .val (.int v5), .val (.int v6), .val (.ref b7), .val (.ref b10), .val (.ref b13), .val (.ref b16), .val (.int (1 : Int32)), .val (.ref b32_0)] []))
          refine Go.step (fun t k => XS.aload X36.here hx rfl (hb hby at_286) rfl rfl k) ?_
          show Go p e below _ (T36.setTop (mkF m 288 #[.val (.int p1), .val (.int p2), .val (.int (2 : Int32)), .val (.int v4), .val (.int v5), .val (.int v6), .val (.ref b7), .val (.ref b10), .val (.ref b13), .val (.ref b16), .val (.int (1 : Int32)), .val (.ref b32_0)] [(.ref b13)]))
          obtain ⟨cq38, kq38, q38a, q38b, q38c⟩ := isOf hZ e36 E_b13_32
          obtain ⟨_, _, ⟨T38, L38, k38, n38⟩, -, X38, ⟨Lc38, hQ38, l38, y38, z38⟩, st38⟩ := X36.virtualBack hx (y := (⟨"com/example/dataflow_to_dispatch/dataflowtodispatch/model/document/XmlElement", "position", "()I"⟩ : MethodName)) (z := (⟨"com/example/dataflow_to_dispatch/dataflowtodispatch/model/document/XmlElement", "position", "()I"⟩ : MethodName)) hown (mvT hZ (hw _ (List.mem_of_getElem? (i := 151) rfl))) (mvT hZ (hw _ (List.mem_of_getElem? (i := 152) rfl))) (notFace_of_selects (args := #[]) (mvT hZ (hw _ (List.mem_of_getElem? (i := 154) rfl)))) (mvT hZ (hw _ (List.mem_of_getElem? (i := 154) rfl))) (mvT hZ (hw _ (List.mem_of_getElem? (i := 153) rfl))) (by decide) (backOf (W := 0) (rm23_1 l Z a0 hw [] b13 b10 b14_0 b14_1 (upA (fun _ => (0 : Int32)) 0 (nar .byte (v5.toInt8.toInt32))) b11_0 b11_1 (upA (fun _ => (0 : Int32)) 0 (nar .byte (v4.toInt8.toInt32))) wC T32.heap n0 Z32 F_previous_b13_32 F_name_b13_32 E_b14_0_32 F_coder_b14_0_32 F_value_b14_0_32 A_b14_1_32 F_name_b10_32 E_b11_0_32 F_coder_b11_0_32 F_value_b11_0_32 A_b11_1_32 F_previous_b10_32 hC S_COMPACT_STRINGS O32 ne_b11_0_b14_0) hZ (hw _ (List.mem_of_getElem? (i := 155) rfl)) (hw _ (List.mem_of_getElem? (i := 2) rfl)) (by decide) (by decide)) q38a q38c (g := (mkF m 288 #[.val (.int p1), .val (.int p2), .val (.int (2 : Int32)), .val (.int v4), .val (.int v5), .val (.int v6), .val (.ref b7), .val (.ref b10), .val (.ref b13), .val (.ref b16), .val (.int (1 : Int32)), .val (.ref b32_0)] [(.ref b13)])) rfl (by rw [hml]; rfl) (Steps.refl _) (argsL := []) (rest := []) (lenOf pd_16 rfl) rfl (by show 2 * 0 + _ ≤ _; exact Nat.le_of_eq rfl) (hb hby at_288) (fun _ _ => ⟨rfl, e36, (by decide : 22 + 0 ≤ _), (by decide : 89 + 0 ≤ _)⟩)
          dsimp only [Pt.U, Pt.locs, Pt.cells, Pt.slots] at X38 l38 y38 z38 st38 hQ38
          subst l38 y38 z38
          obtain ⟨rfl, N38q, e38⟩ := hQ38
          have N38 := Fr.app N36 N38q
          refine Go.trans st38 ?_
          show Go p e below _ (T38.setTop (mkF m 291 #[.val (.int p1), .val (.int p2), .val (.int (2 : Int32)), .val (.int v4), .val (.int v5), .val (.int v6), .val (.ref b7), .val (.ref b10), .val (.ref b13), .val (.ref b16), .val (.int (1 : Int32)), .val (.ref b32_0)] [(.int (f23_1 (upA (fun _ => (0 : Int32)) 0 (nar .byte (v5.toInt8.toInt32))) (upA (fun _ => (0 : Int32)) 0 (nar .byte (v4.toInt8.toInt32))) wC))]))
          refine Go.step (fun t k => XS.iconst X38.here hx rfl (hb hby at_291)  k) ?_
          show Go p e below _ (T38.setTop (mkF m 292 #[.val (.int p1), .val (.int p2), .val (.int (2 : Int32)), .val (.int v4), .val (.int v5), .val (.int v6), .val (.ref b7), .val (.ref b10), .val (.ref b13), .val (.ref b16), .val (.int (1 : Int32)), .val (.ref b32_0)] [(.int (1 : Int32)), (.int (f23_1 (upA (fun _ => (0 : Int32)) 0 (nar .byte (v5.toInt8.toInt32))) (upA (fun _ => (0 : Int32)) 0 (nar .byte (v4.toInt8.toInt32))) wC))]))
          refine Go.step (fun t k => XS.iloadN X38.here hx rfl (hb hby at_292) rfl k) ?_
          show Go p e below _ (T38.setTop (mkF m 293 #[.val (.int p1), .val (.int p2), .val (.int (2 : Int32)), .val (.int v4), .val (.int v5), .val (.int v6), .val (.ref b7), .val (.ref b10), .val (.ref b13), .val (.ref b16), .val (.int (1 : Int32)), .val (.ref b32_0)] [(.int v4), (.int (1 : Int32)), (.int (f23_1 (upA (fun _ => (0 : Int32)) 0 (nar .byte (v5.toInt8.toInt32))) (upA (fun _ => (0 : Int32)) 0 (nar .byte (v4.toInt8.toInt32))) wC))]))
          refine Go.step (fun t k => XS.iload X38.here hx rfl (hb hby at_293) rfl k) ?_
          show Go p e below _ (T38.setTop (mkF m 295 #[.val (.int p1), .val (.int p2), .val (.int (2 : Int32)), .val (.int v4), .val (.int v5), .val (.int v6), .val (.ref b7), .val (.ref b10), .val (.ref b13), .val (.ref b16), .val (.int (1 : Int32)), .val (.ref b32_0)] [(.int v5), (.int v4), (.int (1 : Int32)), (.int (f23_1 (upA (fun _ => (0 : Int32)) 0 (nar .byte (v5.toInt8.toInt32))) (upA (fun _ => (0 : Int32)) 0 (nar .byte (v4.toInt8.toInt32))) wC))]))
          obtain ⟨v40, hv40⟩ : ∃ z : Int32, z = (if v4 = v5 then (1 : Int32) else (0 : Int32)) := ⟨_, rfl⟩
          have J295 : Go p e below (AtF p l e room_1 s m #[(.int p1), (.int p2)] below meth c n0 22 89 T32.heap (mkF m 303 #[.val (.int p1), .val (.int p2), .val (.int (2 : Int32)), .val (.int v4), .val (.int v5), .val (.int v6), .val (.ref b7), .val (.ref b10), .val (.ref b13), .val (.ref b16), .val (.int (1 : Int32)), .val (.ref b32_0)] [(.int v40), (.int (1 : Int32)), (.int (f23_1 (upA (fun _ => (0 : Int32)) 0 (nar .byte (v5.toInt8.toInt32))) (upA (fun _ => (0 : Int32)) 0 (nar .byte (v4.toInt8.toInt32))) wC))])) (T38.setTop (mkF m 295 #[.val (.int p1), .val (.int p2), .val (.int (2 : Int32)), .val (.int v4), .val (.int v5), .val (.int v6), .val (.ref b7), .val (.ref b10), .val (.ref b13), .val (.ref b16), .val (.int (1 : Int32)), .val (.ref b32_0)] [(.int v5), (.int v4), (.int (1 : Int32)), (.int (f23_1 (upA (fun _ => (0 : Int32)) 0 (nar .byte (v5.toInt8.toInt32))) (upA (fun _ => (0 : Int32)) 0 (nar .byte (v4.toInt8.toInt32))) wC))])) := by
            by_cases hc39 : v4 = v5
            · refine Go.step (fun t k => XS.icmpNo X38.here hx rfl (hb hby at_295) rfl (teq hc39).2 k) ?_
              show Go p e below _ (T38.setTop (mkF m 298 #[.val (.int p1), .val (.int p2), .val (.int (2 : Int32)), .val (.int v4), .val (.int v5), .val (.int v6), .val (.ref b7), .val (.ref b10), .val (.ref b13), .val (.ref b16), .val (.int (1 : Int32)), .val (.ref b32_0)] [(.int (1 : Int32)), (.int (f23_1 (upA (fun _ => (0 : Int32)) 0 (nar .byte (v5.toInt8.toInt32))) (upA (fun _ => (0 : Int32)) 0 (nar .byte (v4.toInt8.toInt32))) wC))]))
              refine Go.step (fun t k => XS.iconst X38.here hx rfl (hb hby at_298)  k) ?_
              show Go p e below _ (T38.setTop (mkF m 299 #[.val (.int p1), .val (.int p2), .val (.int (2 : Int32)), .val (.int v4), .val (.int v5), .val (.int v6), .val (.ref b7), .val (.ref b10), .val (.ref b13), .val (.ref b16), .val (.int (1 : Int32)), .val (.ref b32_0)] [(.int (1 : Int32)), (.int (1 : Int32)), (.int (f23_1 (upA (fun _ => (0 : Int32)) 0 (nar .byte (v5.toInt8.toInt32))) (upA (fun _ => (0 : Int32)) 0 (nar .byte (v4.toInt8.toInt32))) wC))]))
              refine Go.step (fun t k => XS.goto X38.here hx rfl (pc0 := 299) (pc' := 303) rfl (hb hby at_299) (by decide) (by decide) k) ?_
              show Go p e below _ (T38.setTop (mkF m 303 #[.val (.int p1), .val (.int p2), .val (.int (2 : Int32)), .val (.int v4), .val (.int v5), .val (.int v6), .val (.ref b7), .val (.ref b10), .val (.ref b13), .val (.ref b16), .val (.int (1 : Int32)), .val (.ref b32_0)] [(.int (1 : Int32)), (.int (1 : Int32)), (.int (f23_1 (upA (fun _ => (0 : Int32)) 0 (nar .byte (v5.toInt8.toInt32))) (upA (fun _ => (0 : Int32)) 0 (nar .byte (v4.toInt8.toInt32))) wC))]))
              exact Go.here ⟨_, _, by simp only [hv40, if_pos hc39], X38, N38, e38⟩
            · refine Go.step (fun t k => XS.icmpYes X38.here hx rfl (pc0 := 295) (pc' := 302) rfl (hb hby at_295) rfl (feq hc39).2 (by decide) (by decide) k) ?_
              show Go p e below _ (T38.setTop (mkF m 302 #[.val (.int p1), .val (.int p2), .val (.int (2 : Int32)), .val (.int v4), .val (.int v5), .val (.int v6), .val (.ref b7), .val (.ref b10), .val (.ref b13), .val (.ref b16), .val (.int (1 : Int32)), .val (.ref b32_0)] [(.int (1 : Int32)), (.int (f23_1 (upA (fun _ => (0 : Int32)) 0 (nar .byte (v5.toInt8.toInt32))) (upA (fun _ => (0 : Int32)) 0 (nar .byte (v4.toInt8.toInt32))) wC))]))
              refine Go.step (fun t k => XS.iconst X38.here hx rfl (hb hby at_302)  k) ?_
              show Go p e below _ (T38.setTop (mkF m 303 #[.val (.int p1), .val (.int p2), .val (.int (2 : Int32)), .val (.int v4), .val (.int v5), .val (.int v6), .val (.ref b7), .val (.ref b10), .val (.ref b13), .val (.ref b16), .val (.int (1 : Int32)), .val (.ref b32_0)] [(.int (0 : Int32)), (.int (1 : Int32)), (.int (f23_1 (upA (fun _ => (0 : Int32)) 0 (nar .byte (v5.toInt8.toInt32))) (upA (fun _ => (0 : Int32)) 0 (nar .byte (v4.toInt8.toInt32))) wC))]))
              exact Go.here ⟨_, _, by simp only [hv40, if_neg hc39], X38, N38, e38⟩
          obtain ⟨_, st41, T41, Lj41, rfl, X41, N41, e41⟩ := J295
          refine Go.trans st41 ?_
          show Go p e below _ (T41.setTop (mkF m 303 #[.val (.int p1), .val (.int p2), .val (.int (2 : Int32)), .val (.int v4), .val (.int v5), .val (.int v6), .val (.ref b7), .val (.ref b10), .val (.ref b13), .val (.ref b16), .val (.int (1 : Int32)), .val (.ref b32_0)] [(.int v40), (.int (1 : Int32)), (.int (f23_1 (upA (fun _ => (0 : Int32)) 0 (nar .byte (v5.toInt8.toInt32))) (upA (fun _ => (0 : Int32)) 0 (nar .byte (v4.toInt8.toInt32))) wC))]))
          refine Go.step (fun t k => XS.iadd X41.here hx rfl (hb hby at_303) rfl k) ?_
          show Go p e below _ (T41.setTop (mkF m 304 #[.val (.int p1), .val (.int p2), .val (.int (2 : Int32)), .val (.int v4), .val (.int v5), .val (.int v6), .val (.ref b7), .val (.ref b10), .val (.ref b13), .val (.ref b16), .val (.int (1 : Int32)), .val (.ref b32_0)] [(.int ((1 : Int32) + v40)), (.int (f23_1 (upA (fun _ => (0 : Int32)) 0 (nar .byte (v5.toInt8.toInt32))) (upA (fun _ => (0 : Int32)) 0 (nar .byte (v4.toInt8.toInt32))) wC))]))
          by_cases hc42 : (f23_1 (upA (fun _ => (0 : Int32)) 0 (nar .byte (v5.toInt8.toInt32))) (upA (fun _ => (0 : Int32)) 0 (nar .byte (v4.toInt8.toInt32))) wC) = ((1 : Int32) + v40)
          · refine Go.step (fun t k => XS.icmpYes X41.here hx rfl (pc0 := 304) (pc' := 309) rfl (hb hby at_304) rfl (teq hc42).1 (by decide) (by decide) k) ?_
            show Go p e below _ (T41.setTop (mkF m 309 #[.val (.int p1), .val (.int p2), .val (.int (2 : Int32)), .val (.int v4), .val (.int v5), .val (.int v6), .val (.ref b7), .val (.ref b10), .val (.ref b13), .val (.ref b16), .val (.int (1 : Int32)), .val (.ref b32_0)] []))
            refine Go.step (fun t k => XS.iloadN X41.here hx rfl (hb hby at_309) rfl k) ?_
            show Go p e below _ (T41.setTop (mkF m 310 #[.val (.int p1), .val (.int p2), .val (.int (2 : Int32)), .val (.int v4), .val (.int v5), .val (.int v6), .val (.ref b7), .val (.ref b10), .val (.ref b13), .val (.ref b16), .val (.int (1 : Int32)), .val (.ref b32_0)] [(.int (2 : Int32))]))
            refine Go.step (fun t k => XS.iconst X41.here hx rfl (hb hby at_310)  k) ?_
            show Go p e below _ (T41.setTop (mkF m 311 #[.val (.int p1), .val (.int p2), .val (.int (2 : Int32)), .val (.int v4), .val (.int v5), .val (.int v6), .val (.ref b7), .val (.ref b10), .val (.ref b13), .val (.ref b16), .val (.int (1 : Int32)), .val (.ref b32_0)] [(.int (3 : Int32)), (.int (2 : Int32))]))
            refine Go.step (fun t k => XS.icmpYes X41.here hx rfl (pc0 := 311) (pc' := 350) rfl (hb hby at_311) rfl (tlt (by decide : (2 : Int32) < (3 : Int32))).1 (by decide) (by decide) k) ?_
            show Go p e below _ (T41.setTop (mkF m 350 #[.val (.int p1), .val (.int p2), .val (.int (2 : Int32)), .val (.int v4), .val (.int v5), .val (.int v6), .val (.ref b7), .val (.ref b10), .val (.ref b13), .val (.ref b16), .val (.int (1 : Int32)), .val (.ref b32_0)] []))
            refine Go.step (fun t k => XS.iload X41.here hx rfl (hb hby at_350) rfl k) ?_
            show Go p e below _ (T41.setTop (mkF m 352 #[.val (.int p1), .val (.int p2), .val (.int (2 : Int32)), .val (.int v4), .val (.int v5), .val (.int v6), .val (.ref b7), .val (.ref b10), .val (.ref b13), .val (.ref b16), .val (.int (1 : Int32)), .val (.ref b32_0)] [(.int (1 : Int32))]))
            subst hv40
            subst hv6
            subst hv5
            subst hv4
            subst hv3
            exact retGN X41 hx Bd.notSynchronized Bd.returns (t := .boolean) (by simp) (z' := (1 : Int32)) rfl (hb hby at_352) ⟨by first | (simp only [f0, if_neg hc19, if_neg hc22, if_pos hc29, if_pos hc37, if_pos hc42]; done) | rfl | (simp [f0, if_neg hc19, if_neg hc22, if_pos hc29, if_pos hc37, if_pos hc42]; done), N41⟩ (by decide) (by decide)
          · refine Go.step (fun t k => XS.icmpNo X41.here hx rfl (hb hby at_304) rfl (feq hc42).1 k) ?_
            show Go p e below _ (T41.setTop (mkF m 307 #[.val (.int p1), .val (.int p2), .val (.int (2 : Int32)), .val (.int v4), .val (.int v5), .val (.int v6), .val (.ref b7), .val (.ref b10), .val (.ref b13), .val (.ref b16), .val (.int (1 : Int32)), .val (.ref b32_0)] []))
            refine Go.step (fun t k => XS.iconst X41.here hx rfl (hb hby at_307)  k) ?_
            show Go p e below _ (T41.setTop (mkF m 308 #[.val (.int p1), .val (.int p2), .val (.int (2 : Int32)), .val (.int v4), .val (.int v5), .val (.int v6), .val (.ref b7), .val (.ref b10), .val (.ref b13), .val (.ref b16), .val (.int (1 : Int32)), .val (.ref b32_0)] [(.int (0 : Int32))]))
            subst hv40
            subst hv6
            subst hv5
            subst hv4
            subst hv3
            exact retGN X41 hx Bd.notSynchronized Bd.returns (t := .boolean) (by simp) (z' := (0 : Int32)) rfl (hb hby at_308) ⟨by first | (simp only [f0, if_neg hc19, if_neg hc22, if_pos hc29, if_pos hc37, if_neg hc42]; done) | rfl | (simp [f0, if_neg hc19, if_neg hc22, if_pos hc29, if_pos hc37, if_neg hc42]; done), N41⟩ (by decide) (by decide)
        · refine Go.step (fun t k => XS.icmpNo X36.here hx rfl (hb hby at_276) rfl (feq hc37).1 k) ?_
          show Go p e below _ (T36.setTop (mkF m 279 #[.val (.int p1), .val (.int p2), .val (.int (2 : Int32)), .val (.int v4), .val (.int v5), .val (.int v6), .val (.ref b7), .val (.ref b10), .val (.ref b13), .val (.ref b16), .val (.int (1 : Int32)), .val (.ref b32_0)] []))
          refine Go.step (fun t k => XS.iconst X36.here hx rfl (hb hby at_279)  k) ?_
          show Go p e below _ (T36.setTop (mkF m 280 #[.val (.int p1), .val (.int p2), .val (.int (2 : Int32)), .val (.int v4), .val (.int v5), .val (.int v6), .val (.ref b7), .val (.ref b10), .val (.ref b13), .val (.ref b16), .val (.int (1 : Int32)), .val (.ref b32_0)] [(.int (0 : Int32))]))
          subst hv6
          subst hv5
          subst hv4
          subst hv3
          exact retGN X36 hx Bd.notSynchronized Bd.returns (t := .boolean) (by simp) (z' := (0 : Int32)) rfl (hb hby at_280) ⟨by first | (simp only [f0, if_neg hc19, if_neg hc22, if_pos hc29, if_neg hc37]; done) | rfl | (simp [f0, if_neg hc19, if_neg hc22, if_pos hc29, if_neg hc37]; done), N36⟩ (by decide) (by decide)
      · skip
        by_cases hc43 : v3 = (3 : Int32)
        · rw [hc43]
          show Go p e below _ (T18.setTop (mkF m 98 #[.val (.int p1), .val (.int p2), .val (.int (3 : Int32)), .val (.int v4), .val (.int v5), .val (.int v6), .val (.ref b7), .val (.ref b10), .val (.ref b13), .val (.ref b16), .val (.int (1 : Int32)), .unset] []))
          refine Go.step (fun t k => XS.iloadN X18.here hx rfl (hb hby at_98) rfl k) ?_
          show Go p e below _ (T18.setTop (mkF m 99 #[.val (.int p1), .val (.int p2), .val (.int (3 : Int32)), .val (.int v4), .val (.int v5), .val (.int v6), .val (.ref b7), .val (.ref b10), .val (.ref b13), .val (.ref b16), .val (.int (1 : Int32)), .unset] [(.int (3 : Int32))]))
          refine Go.step (fun t k => XS.iconst X18.here hx rfl (hb hby at_99)  k) ?_
          show Go p e below _ (T18.setTop (mkF m 100 #[.val (.int p1), .val (.int p2), .val (.int (3 : Int32)), .val (.int v4), .val (.int v5), .val (.int v6), .val (.ref b7), .val (.ref b10), .val (.ref b13), .val (.ref b16), .val (.int (1 : Int32)), .unset] [(.int (1 : Int32)), (.int (3 : Int32))]))
          refine Go.step (fun t k => XS.icmpNo X18.here hx rfl (hb hby at_100) rfl (flt (by decide : ¬ ((3 : Int32) < (1 : Int32)))).1 k) ?_
          show Go p e below _ (T18.setTop (mkF m 103 #[.val (.int p1), .val (.int p2), .val (.int (3 : Int32)), .val (.int v4), .val (.int v5), .val (.int v6), .val (.ref b7), .val (.ref b10), .val (.ref b13), .val (.ref b16), .val (.int (1 : Int32)), .unset] []))
          refine Go.step (fun t k => XS.iload X18.here hx rfl (hb hby at_103) rfl k) ?_
          show Go p e below _ (T18.setTop (mkF m 105 #[.val (.int p1), .val (.int p2), .val (.int (3 : Int32)), .val (.int v4), .val (.int v5), .val (.int v6), .val (.ref b7), .val (.ref b10), .val (.ref b13), .val (.ref b16), .val (.int (1 : Int32)), .unset] [(.int (1 : Int32))]))
          refine Go.step (fun t k => XS.ifNo X18.here hx rfl (hb hby at_105) rfl ((if0 _ _).trans (feq (by decide : ¬ ((1 : Int32) = (0 : Int32)))).1) k) ?_
          show Go p e below _ (T18.setTop (mkF m 108 #[.val (.int p1), .val (.int p2), .val (.int (3 : Int32)), .val (.int v4), .val (.int v5), .val (.int v6), .val (.ref b7), .val (.ref b10), .val (.ref b13), .val (.ref b16), .val (.int (1 : Int32)), .unset] []))
          refine Go.step (fun t k => XS.aload X18.here hx rfl (hb hby at_108) rfl rfl k) ?_
          show Go p e below _ (T18.setTop (mkF m 110 #[.val (.int p1), .val (.int p2), .val (.int (3 : Int32)), .val (.int v4), .val (.int v5), .val (.int v6), .val (.ref b7), .val (.ref b10), .val (.ref b13), .val (.ref b16), .val (.int (1 : Int32)), .unset] [(.ref b7)]))
          refine Go.step (fun t k => XS.aload X18.here hx rfl (hb hby at_110) rfl rfl k) ?_
          show Go p e below _ (T18.setTop (mkF m 112 #[.val (.int p1), .val (.int p2), .val (.int (3 : Int32)), .val (.int v4), .val (.int v5), .val (.int v6), .val (.ref b7), .val (.ref b10), .val (.ref b13), .val (.ref b16), .val (.int (1 : Int32)), .unset] [(.ref b10), (.ref b7)]))
          obtain ⟨cq44, kq44, q44a, q44b, q44c⟩ := isOf hZ rfl E_b7_18
          obtain ⟨_, _, ⟨T44, L44, k44, n44⟩, -, X44, ⟨Lc44, hQ44, l44, y44, z44⟩, st44⟩ := X18.virtualBack hx (y := (⟨"com/example/dataflow_to_dispatch/dataflowtodispatch/model/document/XmlElement", "append", "(Lcom/example/dataflow_to_dispatch/dataflowtodispatch/model/document/XmlElement;)Lcom/example/dataflow_to_dispatch/dataflowtodispatch/model/document/XmlElement;"⟩ : MethodName)) (z := (⟨"com/example/dataflow_to_dispatch/dataflowtodispatch/model/document/XmlElement", "append", "(Lcom/example/dataflow_to_dispatch/dataflowtodispatch/model/document/XmlElement;)Lcom/example/dataflow_to_dispatch/dataflowtodispatch/model/document/XmlElement;"⟩ : MethodName)) hown (mvT hZ (hw _ (List.mem_of_getElem? (i := 81) rfl))) (mvT hZ (hw _ (List.mem_of_getElem? (i := 82) rfl))) (notFace_of_selects (args := #[]) (mvT hZ (hw _ (List.mem_of_getElem? (i := 84) rfl)))) (mvT hZ (hw _ (List.mem_of_getElem? (i := 84) rfl))) (mvT hZ (hw _ (List.mem_of_getElem? (i := 83) rfl))) (by decide) (backOf (W := 0) (rm12_n l Z a0 hw [] b7 b10 .null (.ref b11_0) .null .null .null T18.heap n0 Z18 E_b7_18 F_firstChild_b7_18 F_lastChild_b7_18 E_b10_18 F_name_b10_18 F_parent_b10_18 F_previous_b10_18 F_next_b10_18 g_b10 g_b7 ne_b7_b10 (Ne.symm ne_b7_b10)) hZ (hw _ (List.mem_of_getElem? (i := 85) rfl)) (hw _ (List.mem_of_getElem? (i := 2) rfl)) (by decide) (by decide)) q44a q44c (g := (mkF m 112 #[.val (.int p1), .val (.int p2), .val (.int (3 : Int32)), .val (.int v4), .val (.int v5), .val (.int v6), .val (.ref b7), .val (.ref b10), .val (.ref b13), .val (.ref b16), .val (.int (1 : Int32)), .unset] [(.ref b10), (.ref b7)])) rfl (by rw [hml]; rfl) (Steps.refl _) (argsL := [(.ref b10)]) (rest := []) (lenOf pd_17 rfl) rfl (by show 2 * 0 + _ ≤ _; exact Nat.le_of_eq rfl) (hb hby at_112) (fun _ _ => ⟨rfl, rfl, (by decide : 20 + 0 ≤ _), (by decide : 76 + 0 ≤ _)⟩)
          dsimp only [Pt.U, Pt.locs, Pt.cells, Pt.slots] at X44 l44 y44 z44 st44 hQ44
          subst l44 y44 z44
          obtain ⟨rfl, N44q, K44, Q44_0, Q44_1, Q44_2, Q44_3, Q44_4, Q44_5, Q44_6, Q44_7⟩ := hQ44
          have N44 := Fr.app N18 N44q
          have E_b7_44 := E_b7_18.keep K44
          have E_b8_0_44 := E_b8_0_18.keep K44
          have A_b8_1_44 := A_b8_1_18.keep K44 (ninS ne_b8_1_b10 (ninS (Ne.symm ne_b7_b8_1) nin0))
          have F_coder_b8_0_44 := F_coder_b8_0_18.keep K44 (ninS ne_b8_0_b10 (ninS (Ne.symm ne_b7_b8_0) nin0))
          have F_value_b8_0_44 := F_value_b8_0_18.keep K44 (ninS ne_b8_0_b10 (ninS (Ne.symm ne_b7_b8_0) nin0))
          have E_b10_44 := E_b10_18.keep K44
          have E_b11_0_44 := E_b11_0_18.keep K44
          have A_b11_1_44 := A_b11_1_18.keep K44 (ninS (Ne.symm ne_b10_b11_1) (ninS (Ne.symm ne_b7_b11_1) nin0))
          have F_coder_b11_0_44 := F_coder_b11_0_18.keep K44 (ninS (Ne.symm ne_b10_b11_0) (ninS (Ne.symm ne_b7_b11_0) nin0))
          have F_value_b11_0_44 := F_value_b11_0_18.keep K44 (ninS (Ne.symm ne_b10_b11_0) (ninS (Ne.symm ne_b7_b11_0) nin0))
          have E_b13_44 := E_b13_18.keep K44
          have E_b14_0_44 := E_b14_0_18.keep K44
          have A_b14_1_44 := A_b14_1_18.keep K44 (ninS (Ne.symm ne_b10_b14_1) (ninS (Ne.symm ne_b7_b14_1) nin0))
          have F_coder_b14_0_44 := F_coder_b14_0_18.keep K44 (ninS (Ne.symm ne_b10_b14_0) (ninS (Ne.symm ne_b7_b14_0) nin0))
          have F_value_b14_0_44 := F_value_b14_0_18.keep K44 (ninS (Ne.symm ne_b10_b14_0) (ninS (Ne.symm ne_b7_b14_0) nin0))
          have F_parent_b13_44 := F_parent_b13_18.keep K44 (ninS (Ne.symm ne_b10_b13) (ninS (Ne.symm ne_b7_b13) nin0))
          have F_previous_b13_44 := F_previous_b13_18.keep K44 (ninS (Ne.symm ne_b10_b13) (ninS (Ne.symm ne_b7_b13) nin0))
          have F_next_b13_44 := F_next_b13_18.keep K44 (ninS (Ne.symm ne_b10_b13) (ninS (Ne.symm ne_b7_b13) nin0))
          have F_firstChild_b13_44 := F_firstChild_b13_18.keep K44 (ninS (Ne.symm ne_b10_b13) (ninS (Ne.symm ne_b7_b13) nin0))
          have F_lastChild_b13_44 := F_lastChild_b13_18.keep K44 (ninS (Ne.symm ne_b10_b13) (ninS (Ne.symm ne_b7_b13) nin0))
          have F_name_b13_44 := F_name_b13_18.keep K44 (ninS (Ne.symm ne_b10_b13) (ninS (Ne.symm ne_b7_b13) nin0))
          have E_b16_44 := Q18_5.keep K44
          have E_b17_0_44 := E_b17_0_18.keep K44
          have A_b17_1_44 := A_b17_1_18.keep K44 (ninS (Ne.symm ne_b10_b17_1) (ninS (Ne.symm ne_b7_b17_1) nin0))
          have F_coder_b17_0_44 := F_coder_b17_0_18.keep K44 (ninS (Ne.symm ne_b10_b17_0) (ninS (Ne.symm ne_b7_b17_0) nin0))
          have F_value_b17_0_44 := F_value_b17_0_18.keep K44 (ninS (Ne.symm ne_b10_b17_0) (ninS (Ne.symm ne_b7_b17_0) nin0))
          have F_parent_b16_44 := Q18_0.keep K44 (ninS (Ne.symm ne_b10_b16) (ninS (Ne.symm ne_b7_b16) nin0))
          have F_previous_b16_44 := Q18_1.keep K44 (ninS (Ne.symm ne_b10_b16) (ninS (Ne.symm ne_b7_b16) nin0))
          have F_next_b16_44 := Q18_2.keep K44 (ninS (Ne.symm ne_b10_b16) (ninS (Ne.symm ne_b7_b16) nin0))
          have F_firstChild_b16_44 := Q18_3.keep K44 (ninS (Ne.symm ne_b10_b16) (ninS (Ne.symm ne_b7_b16) nin0))
          have F_lastChild_b16_44 := Q18_4.keep K44 (ninS (Ne.symm ne_b10_b16) (ninS (Ne.symm ne_b7_b16) nin0))
          have F_name_b16_44 := Q18_6.keep K44 (ninS (Ne.symm ne_b10_b16) (ninS (Ne.symm ne_b7_b16) nin0))
          have O44 := O18.keep K44 (allS g_b10 (allS g_b7 all0))
          have Z44 := Nat.le_trans Z18 K44.1
          have KK44 : Keep h0 T44.heap [] := KK18.trans K44 (allS (Or.inr sz_b10) (allS (Or.inr sz_b7) all0))
          clear E_b7_18 E_b8_0_18 A_b8_1_18 F_coder_b8_0_18 F_value_b8_0_18 E_b10_18 E_b11_0_18 A_b11_1_18 F_coder_b11_0_18 F_value_b11_0_18 E_b13_18 E_b14_0_18 A_b14_1_18 F_coder_b14_0_18 F_value_b14_0_18 F_parent_b13_18 F_previous_b13_18 F_next_b13_18 F_firstChild_b13_18 F_lastChild_b13_18 F_name_b13_18 Q18_5 E_b17_0_18 A_b17_1_18 F_coder_b17_0_18 F_value_b17_0_18 Q18_0 Q18_1 Q18_2 Q18_3 Q18_4 Q18_6 O18 Z18 KK18 K44
          refine Go.trans st44 ?_
          show Go p e below _ (T44.setTop (mkF m 115 #[.val (.int p1), .val (.int p2), .val (.int (3 : Int32)), .val (.int v4), .val (.int v5), .val (.int v6), .val (.ref b7), .val (.ref b10), .val (.ref b13), .val (.ref b16), .val (.int (1 : Int32)), .unset] [(.ref b10)]))
          refine Go.step (fun t k => XS.aload X44.here hx rfl (hb hby at_115) rfl rfl k) ?_
          show Go p e below _ (T44.setTop (mkF m 117 #[.val (.int p1), .val (.int p2), .val (.int (3 : Int32)), .val (.int v4), .val (.int v5), .val (.int v6), .val (.ref b7), .val (.ref b10), .val (.ref b13), .val (.ref b16), .val (.int (1 : Int32)), .unset] [(.ref b10), (.ref b10)]))
          refine Go.step (fun t k => Jvm.RoadKit.acmp (g := (mkF m 117 #[.val (.int p1), .val (.int p2), .val (.int (3 : Int32)), .val (.int v4), .val (.int v5), .val (.int v6), .val (.ref b7), .val (.ref b10), .val (.ref b13), .val (.ref b16), .val (.int (1 : Int32)), .unset] [(.ref b10), (.ref b10)])) X44 hx rfl rfl rfl (pc0 := 117) (pc' := 120) (same := true) rfl (hb hby at_117) rfl (decide_eq_true rfl) (by decide) (by decide) k) ?_
          show Go p e below _ (T44.setTop (mkF m 120 #[.val (.int p1), .val (.int p2), .val (.int (3 : Int32)), .val (.int v4), .val (.int v5), .val (.int v6), .val (.ref b7), .val (.ref b10), .val (.ref b13), .val (.ref b16), .val (.int (1 : Int32)), .unset] []))
          refine Go.step (fun t k => XS.iconst X44.here hx rfl (hb hby at_120)  k) ?_
          show Go p e below _ (T44.setTop (mkF m 121 #[.val (.int p1), .val (.int p2), .val (.int (3 : Int32)), .val (.int v4), .val (.int v5), .val (.int v6), .val (.ref b7), .val (.ref b10), .val (.ref b13), .val (.ref b16), .val (.int (1 : Int32)), .unset] [(.int (1 : Int32))]))
          refine Go.step (fun t k => XS.goto X44.here hx rfl (pc0 := 121) (pc' := 125) rfl (hb hby at_121) (by decide) (by decide) k) ?_
          show Go p e below _ (T44.setTop (mkF m 125 #[.val (.int p1), .val (.int p2), .val (.int (3 : Int32)), .val (.int v4), .val (.int v5), .val (.int v6), .val (.ref b7), .val (.ref b10), .val (.ref b13), .val (.ref b16), .val (.int (1 : Int32)), .unset] [(.int (1 : Int32))]))
          refine Go.step (fun t k => XS.istore X44.here hx rfl (hb hby at_125) rfl (l' := #[.val (.int p1), .val (.int p2), .val (.int (3 : Int32)), .val (.int v4), .val (.int v5), .val (.int v6), .val (.ref b7), .val (.ref b10), .val (.ref b13), .val (.ref b16), .val (.int (1 : Int32)), .unset]) rfl k) ?_
          show Go p e below _ (T44.setTop (mkF m 127 #[.val (.int p1), .val (.int p2), .val (.int (3 : Int32)), .val (.int v4), .val (.int v5), .val (.int v6), .val (.ref b7), .val (.ref b10), .val (.ref b13), .val (.ref b16), .val (.int (1 : Int32)), .unset] []))
          refine Go.step (fun t k => XS.iloadN X44.here hx rfl (hb hby at_127) rfl k) ?_
          show Go p e below _ (T44.setTop (mkF m 128 #[.val (.int p1), .val (.int p2), .val (.int (3 : Int32)), .val (.int v4), .val (.int v5), .val (.int v6), .val (.ref b7), .val (.ref b10), .val (.ref b13), .val (.ref b16), .val (.int (1 : Int32)), .unset] [(.int (3 : Int32))]))
          refine Go.step (fun t k => XS.iconst X44.here hx rfl (hb hby at_128)  k) ?_
          show Go p e below _ (T44.setTop (mkF m 129 #[.val (.int p1), .val (.int p2), .val (.int (3 : Int32)), .val (.int v4), .val (.int v5), .val (.int v6), .val (.ref b7), .val (.ref b10), .val (.ref b13), .val (.ref b16), .val (.int (1 : Int32)), .unset] [(.int (2 : Int32)), (.int (3 : Int32))]))
          refine Go.step (fun t k => XS.icmpNo X44.here hx rfl (hb hby at_129) rfl (flt (by decide : ¬ ((3 : Int32) < (2 : Int32)))).1 k) ?_
          show Go p e below _ (T44.setTop (mkF m 132 #[.val (.int p1), .val (.int p2), .val (.int (3 : Int32)), .val (.int v4), .val (.int v5), .val (.int v6), .val (.ref b7), .val (.ref b10), .val (.ref b13), .val (.ref b16), .val (.int (1 : Int32)), .unset] []))
          refine Go.step (fun t k => XS.iload X44.here hx rfl (hb hby at_132) rfl k) ?_
          show Go p e below _ (T44.setTop (mkF m 134 #[.val (.int p1), .val (.int p2), .val (.int (3 : Int32)), .val (.int v4), .val (.int v5), .val (.int v6), .val (.ref b7), .val (.ref b10), .val (.ref b13), .val (.ref b16), .val (.int (1 : Int32)), .unset] [(.int (1 : Int32))]))
          refine Go.step (fun t k => XS.ifNo X44.here hx rfl (hb hby at_134) rfl ((if0 _ _).trans (feq (by decide : ¬ ((1 : Int32) = (0 : Int32)))).1) k) ?_
          show Go p e below _ (T44.setTop (mkF m 137 #[.val (.int p1), .val (.int p2), .val (.int (3 : Int32)), .val (.int v4), .val (.int v5), .val (.int v6), .val (.ref b7), .val (.ref b10), .val (.ref b13), .val (.ref b16), .val (.int (1 : Int32)), .unset] []))
          refine Go.step (fun t k => XS.aload X44.here hx rfl (hb hby at_137) rfl rfl k) ?_
          show Go p e below _ (T44.setTop (mkF m 139 #[.val (.int p1), .val (.int p2), .val (.int (3 : Int32)), .val (.int v4), .val (.int v5), .val (.int v6), .val (.ref b7), .val (.ref b10), .val (.ref b13), .val (.ref b16), .val (.int (1 : Int32)), .unset] [(.ref b7)]))
          refine Go.step (fun t k => XS.aload X44.here hx rfl (hb hby at_139) rfl rfl k) ?_
          show Go p e below _ (T44.setTop (mkF m 141 #[.val (.int p1), .val (.int p2), .val (.int (3 : Int32)), .val (.int v4), .val (.int v5), .val (.int v6), .val (.ref b7), .val (.ref b10), .val (.ref b13), .val (.ref b16), .val (.int (1 : Int32)), .unset] [(.ref b13), (.ref b7)]))
          obtain ⟨cq45, kq45, q45a, q45b, q45c⟩ := isOf hZ rfl Q44_0
          obtain ⟨_, _, ⟨T45, L45, k45, n45⟩, -, X45, ⟨Lc45, hQ45, l45, y45, z45⟩, st45⟩ := X44.virtualBack hx (y := (⟨"com/example/dataflow_to_dispatch/dataflowtodispatch/model/document/XmlElement", "append", "(Lcom/example/dataflow_to_dispatch/dataflowtodispatch/model/document/XmlElement;)Lcom/example/dataflow_to_dispatch/dataflowtodispatch/model/document/XmlElement;"⟩ : MethodName)) (z := (⟨"com/example/dataflow_to_dispatch/dataflowtodispatch/model/document/XmlElement", "append", "(Lcom/example/dataflow_to_dispatch/dataflowtodispatch/model/document/XmlElement;)Lcom/example/dataflow_to_dispatch/dataflowtodispatch/model/document/XmlElement;"⟩ : MethodName)) hown (mvT hZ (hw _ (List.mem_of_getElem? (i := 81) rfl))) (mvT hZ (hw _ (List.mem_of_getElem? (i := 82) rfl))) (notFace_of_selects (args := #[]) (mvT hZ (hw _ (List.mem_of_getElem? (i := 84) rfl)))) (mvT hZ (hw _ (List.mem_of_getElem? (i := 84) rfl))) (mvT hZ (hw _ (List.mem_of_getElem? (i := 83) rfl))) (by decide) (backOf (W := 0) (rm12_r l Z a0 hw [] b7 b13 (.ref b10) b10 (.ref b11_0) .null .null (.ref b14_0) .null .null .null T44.heap n0 Z44 Q44_0 Q44_3 Q44_2 Q44_1 Q44_4 Q44_6 Q44_7 E_b13_44 F_name_b13_44 F_parent_b13_44 F_previous_b13_44 F_next_b13_44 g_b13 g_b10 ne_b10_b13 (Ne.symm ne_b10_b13) ne_b7_b10 ne_b7_b13 g_b7 (Ne.symm ne_b7_b10) (Ne.symm ne_b7_b13)) hZ (hw _ (List.mem_of_getElem? (i := 85) rfl)) (hw _ (List.mem_of_getElem? (i := 2) rfl)) (by decide) (by decide)) q45a q45c (g := (mkF m 141 #[.val (.int p1), .val (.int p2), .val (.int (3 : Int32)), .val (.int v4), .val (.int v5), .val (.int v6), .val (.ref b7), .val (.ref b10), .val (.ref b13), .val (.ref b16), .val (.int (1 : Int32)), .unset] [(.ref b13), (.ref b7)])) rfl (by rw [hml]; rfl) (Steps.refl _) (argsL := [(.ref b13)]) (rest := []) (lenOf pd_17 rfl) rfl (by show 2 * 0 + _ ≤ _; exact Nat.le_of_eq rfl) (hb hby at_141) (fun _ _ => ⟨rfl, rfl, (by decide : 20 + 0 ≤ _), (by decide : 76 + 0 ≤ _)⟩)
          dsimp only [Pt.U, Pt.locs, Pt.cells, Pt.slots] at X45 l45 y45 z45 st45 hQ45
          subst l45 y45 z45
          obtain ⟨rfl, N45q, K45, Q45_0, Q45_1, Q45_2, Q45_3, Q45_4, Q45_5, Q45_6, Q45_7, Q45_8, Q45_9, Q45_10, Q45_11⟩ := hQ45
          have N45 := Fr.app N44 N45q
          have E_b7_45 := Q44_0.keep K45
          have E_b8_0_45 := E_b8_0_44.keep K45
          have A_b8_1_45 := A_b8_1_44.keep K45 (ninS ne_b8_1_b13 (ninS ne_b8_1_b10 (ninS (Ne.symm ne_b7_b8_1) nin0)))
          have F_coder_b8_0_45 := F_coder_b8_0_44.keep K45 (ninS ne_b8_0_b13 (ninS ne_b8_0_b10 (ninS (Ne.symm ne_b7_b8_0) nin0)))
          have F_value_b8_0_45 := F_value_b8_0_44.keep K45 (ninS ne_b8_0_b13 (ninS ne_b8_0_b10 (ninS (Ne.symm ne_b7_b8_0) nin0)))
          have E_b10_45 := Q44_1.keep K45
          have E_b11_0_45 := E_b11_0_44.keep K45
          have A_b11_1_45 := A_b11_1_44.keep K45 (ninS ne_b11_1_b13 (ninS (Ne.symm ne_b10_b11_1) (ninS (Ne.symm ne_b7_b11_1) nin0)))
          have F_coder_b11_0_45 := F_coder_b11_0_44.keep K45 (ninS ne_b11_0_b13 (ninS (Ne.symm ne_b10_b11_0) (ninS (Ne.symm ne_b7_b11_0) nin0)))
          have F_value_b11_0_45 := F_value_b11_0_44.keep K45 (ninS ne_b11_0_b13 (ninS (Ne.symm ne_b10_b11_0) (ninS (Ne.symm ne_b7_b11_0) nin0)))
          have E_b13_45 := E_b13_44.keep K45
          have E_b14_0_45 := E_b14_0_44.keep K45
          have A_b14_1_45 := A_b14_1_44.keep K45 (ninS (Ne.symm ne_b13_b14_1) (ninS (Ne.symm ne_b10_b14_1) (ninS (Ne.symm ne_b7_b14_1) nin0)))
          have F_coder_b14_0_45 := F_coder_b14_0_44.keep K45 (ninS (Ne.symm ne_b13_b14_0) (ninS (Ne.symm ne_b10_b14_0) (ninS (Ne.symm ne_b7_b14_0) nin0)))
          have F_value_b14_0_45 := F_value_b14_0_44.keep K45 (ninS (Ne.symm ne_b13_b14_0) (ninS (Ne.symm ne_b10_b14_0) (ninS (Ne.symm ne_b7_b14_0) nin0)))
          have E_b16_45 := E_b16_44.keep K45
          have E_b17_0_45 := E_b17_0_44.keep K45
          have A_b17_1_45 := A_b17_1_44.keep K45 (ninS (Ne.symm ne_b13_b17_1) (ninS (Ne.symm ne_b10_b17_1) (ninS (Ne.symm ne_b7_b17_1) nin0)))
          have F_coder_b17_0_45 := F_coder_b17_0_44.keep K45 (ninS (Ne.symm ne_b13_b17_0) (ninS (Ne.symm ne_b10_b17_0) (ninS (Ne.symm ne_b7_b17_0) nin0)))
          have F_value_b17_0_45 := F_value_b17_0_44.keep K45 (ninS (Ne.symm ne_b13_b17_0) (ninS (Ne.symm ne_b10_b17_0) (ninS (Ne.symm ne_b7_b17_0) nin0)))
          have F_parent_b16_45 := F_parent_b16_44.keep K45 (ninS (Ne.symm ne_b13_b16) (ninS (Ne.symm ne_b10_b16) (ninS (Ne.symm ne_b7_b16) nin0)))
          have F_previous_b16_45 := F_previous_b16_44.keep K45 (ninS (Ne.symm ne_b13_b16) (ninS (Ne.symm ne_b10_b16) (ninS (Ne.symm ne_b7_b16) nin0)))
          have F_next_b16_45 := F_next_b16_44.keep K45 (ninS (Ne.symm ne_b13_b16) (ninS (Ne.symm ne_b10_b16) (ninS (Ne.symm ne_b7_b16) nin0)))
          have F_firstChild_b16_45 := F_firstChild_b16_44.keep K45 (ninS (Ne.symm ne_b13_b16) (ninS (Ne.symm ne_b10_b16) (ninS (Ne.symm ne_b7_b16) nin0)))
          have F_lastChild_b16_45 := F_lastChild_b16_44.keep K45 (ninS (Ne.symm ne_b13_b16) (ninS (Ne.symm ne_b10_b16) (ninS (Ne.symm ne_b7_b16) nin0)))
          have F_name_b16_45 := F_name_b16_44.keep K45 (ninS (Ne.symm ne_b13_b16) (ninS (Ne.symm ne_b10_b16) (ninS (Ne.symm ne_b7_b16) nin0)))
          have O45 := O44.keep K45 (allS g_b13 (allS g_b10 (allS g_b7 all0)))
          have Z45 := Nat.le_trans Z44 K45.1
          have KK45 : Keep h0 T45.heap [] := KK44.trans K45 (allS (Or.inr sz_b13) (allS (Or.inr sz_b10) (allS (Or.inr sz_b7) all0)))
          clear Q44_0 E_b8_0_44 A_b8_1_44 F_coder_b8_0_44 F_value_b8_0_44 Q44_1 E_b11_0_44 A_b11_1_44 F_coder_b11_0_44 F_value_b11_0_44 E_b13_44 E_b14_0_44 A_b14_1_44 F_coder_b14_0_44 F_value_b14_0_44 E_b16_44 E_b17_0_44 A_b17_1_44 F_coder_b17_0_44 F_value_b17_0_44 F_parent_b16_44 F_previous_b16_44 F_next_b16_44 F_firstChild_b16_44 F_lastChild_b16_44 F_name_b16_44 O44 Z44 KK44 K45
          refine Go.trans st45 ?_
          show Go p e below _ (T45.setTop (mkF m 144 #[.val (.int p1), .val (.int p2), .val (.int (3 : Int32)), .val (.int v4), .val (.int v5), .val (.int v6), .val (.ref b7), .val (.ref b10), .val (.ref b13), .val (.ref b16), .val (.int (1 : Int32)), .unset] [(.ref b13)]))
          refine Go.step (fun t k => XS.aload X45.here hx rfl (hb hby at_144) rfl rfl k) ?_
          show Go p e below _ (T45.setTop (mkF m 146 #[.val (.int p1), .val (.int p2), .val (.int (3 : Int32)), .val (.int v4), .val (.int v5), .val (.int v6), .val (.ref b7), .val (.ref b10), .val (.ref b13), .val (.ref b16), .val (.int (1 : Int32)), .unset] [(.ref b13), (.ref b13)]))
          refine Go.step (fun t k => Jvm.RoadKit.acmp (g := (mkF m 146 #[.val (.int p1), .val (.int p2), .val (.int (3 : Int32)), .val (.int v4), .val (.int v5), .val (.int v6), .val (.ref b7), .val (.ref b10), .val (.ref b13), .val (.ref b16), .val (.int (1 : Int32)), .unset] [(.ref b13), (.ref b13)])) X45 hx rfl rfl rfl (pc0 := 146) (pc' := 149) (same := true) rfl (hb hby at_146) rfl (decide_eq_true rfl) (by decide) (by decide) k) ?_
          show Go p e below _ (T45.setTop (mkF m 149 #[.val (.int p1), .val (.int p2), .val (.int (3 : Int32)), .val (.int v4), .val (.int v5), .val (.int v6), .val (.ref b7), .val (.ref b10), .val (.ref b13), .val (.ref b16), .val (.int (1 : Int32)), .unset] []))
          refine Go.step (fun t k => XS.iconst X45.here hx rfl (hb hby at_149)  k) ?_
          show Go p e below _ (T45.setTop (mkF m 150 #[.val (.int p1), .val (.int p2), .val (.int (3 : Int32)), .val (.int v4), .val (.int v5), .val (.int v6), .val (.ref b7), .val (.ref b10), .val (.ref b13), .val (.ref b16), .val (.int (1 : Int32)), .unset] [(.int (1 : Int32))]))
          refine Go.step (fun t k => XS.goto X45.here hx rfl (pc0 := 150) (pc' := 154) rfl (hb hby at_150) (by decide) (by decide) k) ?_
          show Go p e below _ (T45.setTop (mkF m 154 #[.val (.int p1), .val (.int p2), .val (.int (3 : Int32)), .val (.int v4), .val (.int v5), .val (.int v6), .val (.ref b7), .val (.ref b10), .val (.ref b13), .val (.ref b16), .val (.int (1 : Int32)), .unset] [(.int (1 : Int32))]))
          refine Go.step (fun t k => XS.istore X45.here hx rfl (hb hby at_154) rfl (l' := #[.val (.int p1), .val (.int p2), .val (.int (3 : Int32)), .val (.int v4), .val (.int v5), .val (.int v6), .val (.ref b7), .val (.ref b10), .val (.ref b13), .val (.ref b16), .val (.int (1 : Int32)), .unset]) rfl k) ?_
          show Go p e below _ (T45.setTop (mkF m 156 #[.val (.int p1), .val (.int p2), .val (.int (3 : Int32)), .val (.int v4), .val (.int v5), .val (.int v6), .val (.ref b7), .val (.ref b10), .val (.ref b13), .val (.ref b16), .val (.int (1 : Int32)), .unset] []))
          refine Go.step (fun t k => XS.iloadN X45.here hx rfl (hb hby at_156) rfl k) ?_
          show Go p e below _ (T45.setTop (mkF m 157 #[.val (.int p1), .val (.int p2), .val (.int (3 : Int32)), .val (.int v4), .val (.int v5), .val (.int v6), .val (.ref b7), .val (.ref b10), .val (.ref b13), .val (.ref b16), .val (.int (1 : Int32)), .unset] [(.int (3 : Int32))]))
          refine Go.step (fun t k => XS.iconst X45.here hx rfl (hb hby at_157)  k) ?_
          show Go p e below _ (T45.setTop (mkF m 158 #[.val (.int p1), .val (.int p2), .val (.int (3 : Int32)), .val (.int v4), .val (.int v5), .val (.int v6), .val (.ref b7), .val (.ref b10), .val (.ref b13), .val (.ref b16), .val (.int (1 : Int32)), .unset] [(.int (3 : Int32)), (.int (3 : Int32))]))
          refine Go.step (fun t k => XS.icmpNo X45.here hx rfl (hb hby at_158) rfl (flt (by decide : ¬ ((3 : Int32) < (3 : Int32)))).1 k) ?_
          show Go p e below _ (T45.setTop (mkF m 161 #[.val (.int p1), .val (.int p2), .val (.int (3 : Int32)), .val (.int v4), .val (.int v5), .val (.int v6), .val (.ref b7), .val (.ref b10), .val (.ref b13), .val (.ref b16), .val (.int (1 : Int32)), .unset] []))
          refine Go.step (fun t k => XS.iload X45.here hx rfl (hb hby at_161) rfl k) ?_
          show Go p e below _ (T45.setTop (mkF m 163 #[.val (.int p1), .val (.int p2), .val (.int (3 : Int32)), .val (.int v4), .val (.int v5), .val (.int v6), .val (.ref b7), .val (.ref b10), .val (.ref b13), .val (.ref b16), .val (.int (1 : Int32)), .unset] [(.int (1 : Int32))]))
          refine Go.step (fun t k => XS.ifNo X45.here hx rfl (hb hby at_163) rfl ((if0 _ _).trans (feq (by decide : ¬ ((1 : Int32) = (0 : Int32)))).1) k) ?_
          show Go p e below _ (T45.setTop (mkF m 166 #[.val (.int p1), .val (.int p2), .val (.int (3 : Int32)), .val (.int v4), .val (.int v5), .val (.int v6), .val (.ref b7), .val (.ref b10), .val (.ref b13), .val (.ref b16), .val (.int (1 : Int32)), .unset] []))
          refine Go.step (fun t k => XS.aload X45.here hx rfl (hb hby at_166) rfl rfl k) ?_
          show Go p e below _ (T45.setTop (mkF m 168 #[.val (.int p1), .val (.int p2), .val (.int (3 : Int32)), .val (.int v4), .val (.int v5), .val (.int v6), .val (.ref b7), .val (.ref b10), .val (.ref b13), .val (.ref b16), .val (.int (1 : Int32)), .unset] [(.ref b7)]))
          refine Go.step (fun t k => XS.aload X45.here hx rfl (hb hby at_168) rfl rfl k) ?_
          show Go p e below _ (T45.setTop (mkF m 170 #[.val (.int p1), .val (.int p2), .val (.int (3 : Int32)), .val (.int v4), .val (.int v5), .val (.int v6), .val (.ref b7), .val (.ref b10), .val (.ref b13), .val (.ref b16), .val (.int (1 : Int32)), .unset] [(.ref b16), (.ref b7)]))
          obtain ⟨cq46, kq46, q46a, q46b, q46c⟩ := isOf hZ rfl Q45_0
          obtain ⟨_, _, ⟨T46, L46, k46, n46⟩, -, X46, ⟨Lc46, hQ46, l46, y46, z46⟩, st46⟩ := X45.virtualBack hx (y := (⟨"com/example/dataflow_to_dispatch/dataflowtodispatch/model/document/XmlElement", "append", "(Lcom/example/dataflow_to_dispatch/dataflowtodispatch/model/document/XmlElement;)Lcom/example/dataflow_to_dispatch/dataflowtodispatch/model/document/XmlElement;"⟩ : MethodName)) (z := (⟨"com/example/dataflow_to_dispatch/dataflowtodispatch/model/document/XmlElement", "append", "(Lcom/example/dataflow_to_dispatch/dataflowtodispatch/model/document/XmlElement;)Lcom/example/dataflow_to_dispatch/dataflowtodispatch/model/document/XmlElement;"⟩ : MethodName)) hown (mvT hZ (hw _ (List.mem_of_getElem? (i := 81) rfl))) (mvT hZ (hw _ (List.mem_of_getElem? (i := 82) rfl))) (notFace_of_selects (args := #[]) (mvT hZ (hw _ (List.mem_of_getElem? (i := 84) rfl)))) (mvT hZ (hw _ (List.mem_of_getElem? (i := 84) rfl))) (mvT hZ (hw _ (List.mem_of_getElem? (i := 83) rfl))) (by decide) (backOf (W := 0) (rm12_r l Z a0 hw [] b7 b16 (.ref b10) b13 (.ref b14_0) (.ref b10) .null (.ref b17_0) .null .null .null T45.heap n0 Z45 Q45_0 Q45_1 Q45_2 Q45_4 Q45_8 Q45_10 Q45_11 E_b16_45 F_name_b16_45 F_parent_b16_45 F_previous_b16_45 F_next_b16_45 g_b16 g_b13 ne_b13_b16 (Ne.symm ne_b13_b16) ne_b7_b13 ne_b7_b16 g_b7 (Ne.symm ne_b7_b13) (Ne.symm ne_b7_b16)) hZ (hw _ (List.mem_of_getElem? (i := 85) rfl)) (hw _ (List.mem_of_getElem? (i := 2) rfl)) (by decide) (by decide)) q46a q46c (g := (mkF m 170 #[.val (.int p1), .val (.int p2), .val (.int (3 : Int32)), .val (.int v4), .val (.int v5), .val (.int v6), .val (.ref b7), .val (.ref b10), .val (.ref b13), .val (.ref b16), .val (.int (1 : Int32)), .unset] [(.ref b16), (.ref b7)])) rfl (by rw [hml]; rfl) (Steps.refl _) (argsL := [(.ref b16)]) (rest := []) (lenOf pd_17 rfl) rfl (by show 2 * 0 + _ ≤ _; exact Nat.le_of_eq rfl) (hb hby at_170) (fun _ _ => ⟨rfl, rfl, (by decide : 20 + 0 ≤ _), (by decide : 76 + 0 ≤ _)⟩)
          dsimp only [Pt.U, Pt.locs, Pt.cells, Pt.slots] at X46 l46 y46 z46 st46 hQ46
          subst l46 y46 z46
          obtain ⟨rfl, N46q, K46, Q46_0, Q46_1, Q46_2, Q46_3, Q46_4, Q46_5, Q46_6, Q46_7, Q46_8, Q46_9, Q46_10, Q46_11⟩ := hQ46
          have N46 := Fr.app N45 N46q
          have E_b7_46 := Q45_0.keep K46
          have E_b8_0_46 := E_b8_0_45.keep K46
          have A_b8_1_46 := A_b8_1_45.keep K46 (ninS ne_b8_1_b16 (ninS ne_b8_1_b13 (ninS (Ne.symm ne_b7_b8_1) nin0)))
          have F_coder_b8_0_46 := F_coder_b8_0_45.keep K46 (ninS ne_b8_0_b16 (ninS ne_b8_0_b13 (ninS (Ne.symm ne_b7_b8_0) nin0)))
          have F_value_b8_0_46 := F_value_b8_0_45.keep K46 (ninS ne_b8_0_b16 (ninS ne_b8_0_b13 (ninS (Ne.symm ne_b7_b8_0) nin0)))
          have E_b10_46 := Q45_3.keep K46
          have E_b11_0_46 := E_b11_0_45.keep K46
          have A_b11_1_46 := A_b11_1_45.keep K46 (ninS ne_b11_1_b16 (ninS ne_b11_1_b13 (ninS (Ne.symm ne_b7_b11_1) nin0)))
          have F_coder_b11_0_46 := F_coder_b11_0_45.keep K46 (ninS ne_b11_0_b16 (ninS ne_b11_0_b13 (ninS (Ne.symm ne_b7_b11_0) nin0)))
          have F_value_b11_0_46 := F_value_b11_0_45.keep K46 (ninS ne_b11_0_b16 (ninS ne_b11_0_b13 (ninS (Ne.symm ne_b7_b11_0) nin0)))
          have E_b13_46 := Q45_4.keep K46
          have E_b14_0_46 := E_b14_0_45.keep K46
          have A_b14_1_46 := A_b14_1_45.keep K46 (ninS ne_b14_1_b16 (ninS (Ne.symm ne_b13_b14_1) (ninS (Ne.symm ne_b7_b14_1) nin0)))
          have F_coder_b14_0_46 := F_coder_b14_0_45.keep K46 (ninS ne_b14_0_b16 (ninS (Ne.symm ne_b13_b14_0) (ninS (Ne.symm ne_b7_b14_0) nin0)))
          have F_value_b14_0_46 := F_value_b14_0_45.keep K46 (ninS ne_b14_0_b16 (ninS (Ne.symm ne_b13_b14_0) (ninS (Ne.symm ne_b7_b14_0) nin0)))
          have E_b16_46 := E_b16_45.keep K46
          have E_b17_0_46 := E_b17_0_45.keep K46
          have A_b17_1_46 := A_b17_1_45.keep K46 (ninS (Ne.symm ne_b16_b17_1) (ninS (Ne.symm ne_b13_b17_1) (ninS (Ne.symm ne_b7_b17_1) nin0)))
          have F_coder_b17_0_46 := F_coder_b17_0_45.keep K46 (ninS (Ne.symm ne_b16_b17_0) (ninS (Ne.symm ne_b13_b17_0) (ninS (Ne.symm ne_b7_b17_0) nin0)))
          have F_value_b17_0_46 := F_value_b17_0_45.keep K46 (ninS (Ne.symm ne_b16_b17_0) (ninS (Ne.symm ne_b13_b17_0) (ninS (Ne.symm ne_b7_b17_0) nin0)))
          have F_name_b10_46 := Q45_5.keep K46 (ninS ne_b10_b16 (ninS ne_b10_b13 (ninS (Ne.symm ne_b7_b10) nin0)))
          have F_previous_b10_46 := Q45_6.keep K46 (ninS ne_b10_b16 (ninS ne_b10_b13 (ninS (Ne.symm ne_b7_b10) nin0)))
          have F_next_b10_46 := Q45_7.keep K46 (ninS ne_b10_b16 (ninS ne_b10_b13 (ninS (Ne.symm ne_b7_b10) nin0)))
          have O46 := O45.keep K46 (allS g_b16 (allS g_b13 (allS g_b7 all0)))
          have Z46 := Nat.le_trans Z45 K46.1
          have KK46 : Keep h0 T46.heap [] := KK45.trans K46 (allS (Or.inr sz_b16) (allS (Or.inr sz_b13) (allS (Or.inr sz_b7) all0)))
          clear Q45_0 E_b8_0_45 A_b8_1_45 F_coder_b8_0_45 F_value_b8_0_45 Q45_3 E_b11_0_45 A_b11_1_45 F_coder_b11_0_45 F_value_b11_0_45 Q45_4 E_b14_0_45 A_b14_1_45 F_coder_b14_0_45 F_value_b14_0_45 E_b16_45 E_b17_0_45 A_b17_1_45 F_coder_b17_0_45 F_value_b17_0_45 Q45_5 Q45_6 Q45_7 O45 Z45 KK45 K46
          refine Go.trans st46 ?_
          show Go p e below _ (T46.setTop (mkF m 173 #[.val (.int p1), .val (.int p2), .val (.int (3 : Int32)), .val (.int v4), .val (.int v5), .val (.int v6), .val (.ref b7), .val (.ref b10), .val (.ref b13), .val (.ref b16), .val (.int (1 : Int32)), .unset] [(.ref b16)]))
          refine Go.step (fun t k => XS.aload X46.here hx rfl (hb hby at_173) rfl rfl k) ?_
          show Go p e below _ (T46.setTop (mkF m 175 #[.val (.int p1), .val (.int p2), .val (.int (3 : Int32)), .val (.int v4), .val (.int v5), .val (.int v6), .val (.ref b7), .val (.ref b10), .val (.ref b13), .val (.ref b16), .val (.int (1 : Int32)), .unset] [(.ref b16), (.ref b16)]))
          refine Go.step (fun t k => Jvm.RoadKit.acmp (g := (mkF m 175 #[.val (.int p1), .val (.int p2), .val (.int (3 : Int32)), .val (.int v4), .val (.int v5), .val (.int v6), .val (.ref b7), .val (.ref b10), .val (.ref b13), .val (.ref b16), .val (.int (1 : Int32)), .unset] [(.ref b16), (.ref b16)])) X46 hx rfl rfl rfl (pc0 := 175) (pc' := 178) (same := true) rfl (hb hby at_175) rfl (decide_eq_true rfl) (by decide) (by decide) k) ?_
          show Go p e below _ (T46.setTop (mkF m 178 #[.val (.int p1), .val (.int p2), .val (.int (3 : Int32)), .val (.int v4), .val (.int v5), .val (.int v6), .val (.ref b7), .val (.ref b10), .val (.ref b13), .val (.ref b16), .val (.int (1 : Int32)), .unset] []))
          refine Go.step (fun t k => XS.iconst X46.here hx rfl (hb hby at_178)  k) ?_
          show Go p e below _ (T46.setTop (mkF m 179 #[.val (.int p1), .val (.int p2), .val (.int (3 : Int32)), .val (.int v4), .val (.int v5), .val (.int v6), .val (.ref b7), .val (.ref b10), .val (.ref b13), .val (.ref b16), .val (.int (1 : Int32)), .unset] [(.int (1 : Int32))]))
          refine Go.step (fun t k => XS.goto X46.here hx rfl (pc0 := 179) (pc' := 183) rfl (hb hby at_179) (by decide) (by decide) k) ?_
          show Go p e below _ (T46.setTop (mkF m 183 #[.val (.int p1), .val (.int p2), .val (.int (3 : Int32)), .val (.int v4), .val (.int v5), .val (.int v6), .val (.ref b7), .val (.ref b10), .val (.ref b13), .val (.ref b16), .val (.int (1 : Int32)), .unset] [(.int (1 : Int32))]))
          refine Go.step (fun t k => XS.istore X46.here hx rfl (hb hby at_183) rfl (l' := #[.val (.int p1), .val (.int p2), .val (.int (3 : Int32)), .val (.int v4), .val (.int v5), .val (.int v6), .val (.ref b7), .val (.ref b10), .val (.ref b13), .val (.ref b16), .val (.int (1 : Int32)), .unset]) rfl k) ?_
          show Go p e below _ (T46.setTop (mkF m 185 #[.val (.int p1), .val (.int p2), .val (.int (3 : Int32)), .val (.int v4), .val (.int v5), .val (.int v6), .val (.ref b7), .val (.ref b10), .val (.ref b13), .val (.ref b16), .val (.int (1 : Int32)), .unset] []))
          refine Go.step (fun t k => XS.aload X46.here hx rfl (hb hby at_185) rfl rfl k) ?_
          show Go p e below _ (T46.setTop (mkF m 187 #[.val (.int p1), .val (.int p2), .val (.int (3 : Int32)), .val (.int v4), .val (.int v5), .val (.int v6), .val (.ref b7), .val (.ref b10), .val (.ref b13), .val (.ref b16), .val (.int (1 : Int32)), .unset] [(.ref b7)]))
          obtain ⟨cq47, kq47, q47a, q47b, q47c⟩ := isOf hZ rfl Q46_0
          obtain ⟨_, _, ⟨T47, L47, k47, n47⟩, -, X47, ⟨Lc47, hQ47, l47, y47, z47⟩, st47⟩ := X46.virtualBack hx (y := (⟨"com/example/dataflow_to_dispatch/dataflowtodispatch/model/document/XmlElement", "children", "()Ljava/util/List;"⟩ : MethodName)) (z := (⟨"com/example/dataflow_to_dispatch/dataflowtodispatch/model/document/XmlElement", "children", "()Ljava/util/List;"⟩ : MethodName)) hown (mvT hZ (hw _ (List.mem_of_getElem? (i := 63) rfl))) (mvT hZ (hw _ (List.mem_of_getElem? (i := 64) rfl))) (notFace_of_selects (args := #[]) (mvT hZ (hw _ (List.mem_of_getElem? (i := 66) rfl)))) (mvT hZ (hw _ (List.mem_of_getElem? (i := 66) rfl))) (mvT hZ (hw _ (List.mem_of_getElem? (i := 65) rfl))) (by decide) (backOf (W := 0) (rm10_3 l Z a0 hw [] b7 b10 b13 b16 oD T46.heap n0 Z46 Q46_1 E_b10_46 F_next_b10_46 Q46_3 Q46_7 Q46_4 Q46_11 O46 S_DEFAULTCAPACITY_EMPTY_ELEMENTDATA A_DEFAULTCAPACITY_EMPTY_ELEMENTDATA) hZ (hw _ (List.mem_of_getElem? (i := 67) rfl)) (hw _ (List.mem_of_getElem? (i := 2) rfl)) (by decide) (by decide)) q47a q47c (g := (mkF m 187 #[.val (.int p1), .val (.int p2), .val (.int (3 : Int32)), .val (.int v4), .val (.int v5), .val (.int v6), .val (.ref b7), .val (.ref b10), .val (.ref b13), .val (.ref b16), .val (.int (1 : Int32)), .unset] [(.ref b7)])) rfl (by rw [hml]; rfl) (Steps.refl _) (argsL := []) (rest := []) (lenOf pd_15 rfl) rfl (by show 2 * 0 + _ ≤ _; exact Nat.le_of_eq rfl) (hb hby at_187) (fun _ _ => ⟨rfl, rfl, (by decide : 20 + 2 ≤ _), (by decide : 76 + 13 ≤ _)⟩)
          dsimp only [Pt.U, Pt.locs, Pt.cells, Pt.slots] at X47 l47 y47 z47 st47 hQ47
          subst l47 y47 z47
          obtain ⟨b47_0, b47_1, rfl, N47q, K47, sz47_0, sz47_1, Q47_0, Q47_1, Q47_2, Q47_3, Q47_4⟩ := hQ47
          have N47 := Fr.app N46 N47q
          have g_b47_0 : n0 ≤ b47_0 := Nat.le_trans Z46 sz47_0
          have sz_b47_0 : h0.size ≤ b47_0 := Nat.le_trans KK46.1 sz47_0
          have ne_b7_b47_0 : b7 ≠ b47_0 := Nat.ne_of_lt (Nat.lt_of_lt_of_le Q46_0.lt sz47_0)
          have ne_b8_0_b47_0 : b8_0 ≠ b47_0 := Nat.ne_of_lt (Nat.lt_of_lt_of_le E_b8_0_46.lt sz47_0)
          have ne_b8_1_b47_0 : b8_1 ≠ b47_0 := Nat.ne_of_lt (Nat.lt_of_lt_of_le A_b8_1_46.lt sz47_0)
          have ne_b10_b47_0 : b10 ≠ b47_0 := Nat.ne_of_lt (Nat.lt_of_lt_of_le E_b10_46.lt sz47_0)
          have ne_b11_0_b47_0 : b11_0 ≠ b47_0 := Nat.ne_of_lt (Nat.lt_of_lt_of_le E_b11_0_46.lt sz47_0)
          have ne_b11_1_b47_0 : b11_1 ≠ b47_0 := Nat.ne_of_lt (Nat.lt_of_lt_of_le A_b11_1_46.lt sz47_0)
          have ne_b13_b47_0 : b13 ≠ b47_0 := Nat.ne_of_lt (Nat.lt_of_lt_of_le Q46_3.lt sz47_0)
          have ne_b14_0_b47_0 : b14_0 ≠ b47_0 := Nat.ne_of_lt (Nat.lt_of_lt_of_le E_b14_0_46.lt sz47_0)
          have ne_b14_1_b47_0 : b14_1 ≠ b47_0 := Nat.ne_of_lt (Nat.lt_of_lt_of_le A_b14_1_46.lt sz47_0)
          have ne_b16_b47_0 : b16 ≠ b47_0 := Nat.ne_of_lt (Nat.lt_of_lt_of_le Q46_4.lt sz47_0)
          have ne_b17_0_b47_0 : b17_0 ≠ b47_0 := Nat.ne_of_lt (Nat.lt_of_lt_of_le E_b17_0_46.lt sz47_0)
          have ne_b17_1_b47_0 : b17_1 ≠ b47_0 := Nat.ne_of_lt (Nat.lt_of_lt_of_le A_b17_1_46.lt sz47_0)
          have g_b47_1 : n0 ≤ b47_1 := Nat.le_trans Z46 sz47_1
          have sz_b47_1 : h0.size ≤ b47_1 := Nat.le_trans KK46.1 sz47_1
          have ne_b7_b47_1 : b7 ≠ b47_1 := Nat.ne_of_lt (Nat.lt_of_lt_of_le Q46_0.lt sz47_1)
          have ne_b8_0_b47_1 : b8_0 ≠ b47_1 := Nat.ne_of_lt (Nat.lt_of_lt_of_le E_b8_0_46.lt sz47_1)
          have ne_b8_1_b47_1 : b8_1 ≠ b47_1 := Nat.ne_of_lt (Nat.lt_of_lt_of_le A_b8_1_46.lt sz47_1)
          have ne_b10_b47_1 : b10 ≠ b47_1 := Nat.ne_of_lt (Nat.lt_of_lt_of_le E_b10_46.lt sz47_1)
          have ne_b11_0_b47_1 : b11_0 ≠ b47_1 := Nat.ne_of_lt (Nat.lt_of_lt_of_le E_b11_0_46.lt sz47_1)
          have ne_b11_1_b47_1 : b11_1 ≠ b47_1 := Nat.ne_of_lt (Nat.lt_of_lt_of_le A_b11_1_46.lt sz47_1)
          have ne_b13_b47_1 : b13 ≠ b47_1 := Nat.ne_of_lt (Nat.lt_of_lt_of_le Q46_3.lt sz47_1)
          have ne_b14_0_b47_1 : b14_0 ≠ b47_1 := Nat.ne_of_lt (Nat.lt_of_lt_of_le E_b14_0_46.lt sz47_1)
          have ne_b14_1_b47_1 : b14_1 ≠ b47_1 := Nat.ne_of_lt (Nat.lt_of_lt_of_le A_b14_1_46.lt sz47_1)
          have ne_b16_b47_1 : b16 ≠ b47_1 := Nat.ne_of_lt (Nat.lt_of_lt_of_le Q46_4.lt sz47_1)
          have ne_b17_0_b47_1 : b17_0 ≠ b47_1 := Nat.ne_of_lt (Nat.lt_of_lt_of_le E_b17_0_46.lt sz47_1)
          have ne_b17_1_b47_1 : b17_1 ≠ b47_1 := Nat.ne_of_lt (Nat.lt_of_lt_of_le A_b17_1_46.lt sz47_1)
          have E_b7_47 := Q46_0.keep K47
          have E_b8_0_47 := E_b8_0_46.keep K47
          have A_b8_1_47 := A_b8_1_46.keep K47 nin0
          have F_coder_b8_0_47 := F_coder_b8_0_46.keep K47 nin0
          have F_value_b8_0_47 := F_value_b8_0_46.keep K47 nin0
          have E_b10_47 := E_b10_46.keep K47
          have E_b11_0_47 := E_b11_0_46.keep K47
          have A_b11_1_47 := A_b11_1_46.keep K47 nin0
          have F_coder_b11_0_47 := F_coder_b11_0_46.keep K47 nin0
          have F_value_b11_0_47 := F_value_b11_0_46.keep K47 nin0
          have E_b13_47 := Q46_3.keep K47
          have E_b14_0_47 := E_b14_0_46.keep K47
          have A_b14_1_47 := A_b14_1_46.keep K47 nin0
          have F_coder_b14_0_47 := F_coder_b14_0_46.keep K47 nin0
          have F_value_b14_0_47 := F_value_b14_0_46.keep K47 nin0
          have E_b16_47 := Q46_4.keep K47
          have E_b17_0_47 := E_b17_0_46.keep K47
          have A_b17_1_47 := A_b17_1_46.keep K47 nin0
          have F_coder_b17_0_47 := F_coder_b17_0_46.keep K47 nin0
          have F_value_b17_0_47 := F_value_b17_0_46.keep K47 nin0
          have F_name_b10_47 := F_name_b10_46.keep K47 nin0
          have F_previous_b10_47 := F_previous_b10_46.keep K47 nin0
          have F_next_b10_47 := F_next_b10_46.keep K47 nin0
          have F_firstChild_b7_47 := Q46_1.keep K47 nin0
          have F_lastChild_b7_47 := Q46_2.keep K47 nin0
          have F_name_b13_47 := Q46_5.keep K47 nin0
          have F_previous_b13_47 := Q46_6.keep K47 nin0
          have F_next_b13_47 := Q46_7.keep K47 nin0
          have F_name_b16_47 := Q46_8.keep K47 nin0
          have F_parent_b16_47 := Q46_9.keep K47 nin0
          have F_previous_b16_47 := Q46_10.keep K47 nin0
          have F_next_b16_47 := Q46_11.keep K47 nin0
          have O47 := O46.keep K47 all0
          have Z47 := Nat.le_trans Z46 K47.1
          have KK47 : Keep h0 T47.heap [] := KK46.trans K47 all0
          clear Q46_0 E_b8_0_46 A_b8_1_46 F_coder_b8_0_46 F_value_b8_0_46 E_b10_46 E_b11_0_46 A_b11_1_46 F_coder_b11_0_46 F_value_b11_0_46 Q46_3 E_b14_0_46 A_b14_1_46 F_coder_b14_0_46 F_value_b14_0_46 Q46_4 E_b17_0_46 A_b17_1_46 F_coder_b17_0_46 F_value_b17_0_46 F_name_b10_46 F_previous_b10_46 F_next_b10_46 Q46_1 Q46_2 Q46_5 Q46_6 Q46_7 Q46_8 Q46_9 Q46_10 Q46_11 O46 Z46 KK46 K47
          refine Go.trans st47 ?_
          show Go p e below _ (T47.setTop (mkF m 190 #[.val (.int p1), .val (.int p2), .val (.int (3 : Int32)), .val (.int v4), .val (.int v5), .val (.int v6), .val (.ref b7), .val (.ref b10), .val (.ref b13), .val (.ref b16), .val (.int (1 : Int32)), .unset] [(.ref b47_0)]))
          refine Go.step (fun t k => XS.astore X47.here hx rfl (hb hby at_190) rfl rfl (l' := #[.val (.int p1), .val (.int p2), .val (.int (3 : Int32)), .val (.int v4), .val (.int v5), .val (.int v6), .val (.ref b7), .val (.ref b10), .val (.ref b13), .val (.ref b16), .val (.int (1 : Int32)), .val (.ref b47_0)]) rfl k) ?_
          show Go p e below _ (T47.setTop (mkF m 192 #[.val (.int p1), .val (.int p2), .val (.int (3 : Int32)), .val (.int v4), .val (.int v5), .val (.int v6), .val (.ref b7), .val (.ref b10), .val (.ref b13), .val (.ref b16), .val (.int (1 : Int32)), .val (.ref b47_0)] []))
          refine Go.step (fun t k => XS.aload X47.here hx rfl (hb hby at_192) rfl rfl k) ?_
          show Go p e below _ (T47.setTop (mkF m 194 #[.val (.int p1), .val (.int p2), .val (.int (3 : Int32)), .val (.int v4), .val (.int v5), .val (.int v6), .val (.ref b7), .val (.ref b10), .val (.ref b13), .val (.ref b16), .val (.int (1 : Int32)), .val (.ref b47_0)] [(.ref b47_0)]))
          obtain ⟨cq48, kq48, q48a, q48b, q48c⟩ := isOf hZ rfl Q47_0
          obtain ⟨_, _, ⟨T48, L48, k48, n48⟩, -, X48, ⟨Lc48, hQ48, l48, y48, z48⟩, st48⟩ := X47.interfaceBack hx (xi := (⟨"java/util/List", "size", "()I"⟩ : MethodName)) (y := (⟨"java/util/ArrayList", "size", "()I"⟩ : MethodName)) hown (mvT hZ (hw _ (List.mem_of_getElem? (i := 70) rfl))) (mvT hZ (hw _ (List.mem_of_getElem? (i := 71) rfl))) (mvT hZ (hw _ (List.mem_of_getElem? (i := 72) rfl))) (mvT hZ (hw _ (List.mem_of_getElem? (i := 73) rfl))) (mvT hZ (hw _ (List.mem_of_getElem? (i := 74) rfl))) (mvT hZ (hw _ (List.mem_of_getElem? (i := 75) rfl))) (mvT hZ (hw _ (List.mem_of_getElem? (i := 76) rfl))) (mvT hZ (hw _ (List.mem_of_getElem? (i := 77) rfl))) (by decide) (backOf (W := 0) (rm11 l Z a0 hw [] b47_0 (3 : Int32) T47.heap n0 Z47 Q47_1) hZ (hw _ (List.mem_of_getElem? (i := 78) rfl)) (hw _ (List.mem_of_getElem? (i := 35) rfl)) (by decide) (by decide)) q48a q48b q48c (g := (mkF m 194 #[.val (.int p1), .val (.int p2), .val (.int (3 : Int32)), .val (.int v4), .val (.int v5), .val (.int v6), .val (.ref b7), .val (.ref b10), .val (.ref b13), .val (.ref b16), .val (.int (1 : Int32)), .val (.ref b47_0)] [(.ref b47_0)])) rfl (by rw [hml]; rfl) (Steps.refl _) (argsL := []) (rest := []) (lenOf pd_16 rfl) rfl (by show 2 * 0 + _ ≤ _; exact Nat.le_of_eq rfl) (hb hby at_194) (fun _ _ => ⟨rfl, rfl, (by decide : 22 + 0 ≤ _), (by decide : 89 + 0 ≤ _)⟩)
          dsimp only [Pt.U, Pt.locs, Pt.cells, Pt.slots] at X48 l48 y48 z48 st48 hQ48
          subst l48 y48 z48
          obtain ⟨rfl, N48q, e48⟩ := hQ48
          have N48 := Fr.app N47 N48q
          refine Go.trans st48 ?_
          show Go p e below _ (T48.setTop (mkF m 199 #[.val (.int p1), .val (.int p2), .val (.int (3 : Int32)), .val (.int v4), .val (.int v5), .val (.int v6), .val (.ref b7), .val (.ref b10), .val (.ref b13), .val (.ref b16), .val (.int (1 : Int32)), .val (.ref b47_0)] [(.int (3 : Int32))]))
          refine Go.step (fun t k => XS.iloadN X48.here hx rfl (hb hby at_199) rfl k) ?_
          show Go p e below _ (T48.setTop (mkF m 200 #[.val (.int p1), .val (.int p2), .val (.int (3 : Int32)), .val (.int v4), .val (.int v5), .val (.int v6), .val (.ref b7), .val (.ref b10), .val (.ref b13), .val (.ref b16), .val (.int (1 : Int32)), .val (.ref b47_0)] [(.int (3 : Int32)), (.int (3 : Int32))]))
          refine Go.step (fun t k => XS.icmpYes X48.here hx rfl (pc0 := 200) (pc' := 205) rfl (hb hby at_200) rfl (teq (rfl : (3 : Int32) = (3 : Int32))).1 (by decide) (by decide) k) ?_
          show Go p e below _ (T48.setTop (mkF m 205 #[.val (.int p1), .val (.int p2), .val (.int (3 : Int32)), .val (.int v4), .val (.int v5), .val (.int v6), .val (.ref b7), .val (.ref b10), .val (.ref b13), .val (.ref b16), .val (.int (1 : Int32)), .val (.ref b47_0)] []))
          refine Go.step (fun t k => XS.iloadN X48.here hx rfl (hb hby at_205) rfl k) ?_
          show Go p e below _ (T48.setTop (mkF m 206 #[.val (.int p1), .val (.int p2), .val (.int (3 : Int32)), .val (.int v4), .val (.int v5), .val (.int v6), .val (.ref b7), .val (.ref b10), .val (.ref b13), .val (.ref b16), .val (.int (1 : Int32)), .val (.ref b47_0)] [(.int (3 : Int32))]))
          refine Go.step (fun t k => XS.iconst X48.here hx rfl (hb hby at_206)  k) ?_
          show Go p e below _ (T48.setTop (mkF m 207 #[.val (.int p1), .val (.int p2), .val (.int (3 : Int32)), .val (.int v4), .val (.int v5), .val (.int v6), .val (.ref b7), .val (.ref b10), .val (.ref b13), .val (.ref b16), .val (.int (1 : Int32)), .val (.ref b47_0)] [(.int (1 : Int32)), (.int (3 : Int32))]))
          refine Go.step (fun t k => XS.icmpNo X48.here hx rfl (hb hby at_207) rfl (flt (by decide : ¬ ((3 : Int32) < (1 : Int32)))).1 k) ?_
          show Go p e below _ (T48.setTop (mkF m 210 #[.val (.int p1), .val (.int p2), .val (.int (3 : Int32)), .val (.int v4), .val (.int v5), .val (.int v6), .val (.ref b7), .val (.ref b10), .val (.ref b13), .val (.ref b16), .val (.int (1 : Int32)), .val (.ref b47_0)] []))
          refine Go.step (fun t k => XS.aload X48.here hx rfl (hb hby at_210) rfl rfl k) ?_
          show Go p e below _ (T48.setTop (mkF m 212 #[.val (.int p1), .val (.int p2), .val (.int (3 : Int32)), .val (.int v4), .val (.int v5), .val (.int v6), .val (.ref b7), .val (.ref b10), .val (.ref b13), .val (.ref b16), .val (.int (1 : Int32)), .val (.ref b47_0)] [(.ref b47_0)]))
          refine Go.step (fun t k => XS.iconst X48.here hx rfl (hb hby at_212)  k) ?_
          show Go p e below _ (T48.setTop (mkF m 213 #[.val (.int p1), .val (.int p2), .val (.int (3 : Int32)), .val (.int v4), .val (.int v5), .val (.int v6), .val (.ref b7), .val (.ref b10), .val (.ref b13), .val (.ref b16), .val (.int (1 : Int32)), .val (.ref b47_0)] [(.int (0 : Int32)), (.ref b47_0)]))
          obtain ⟨cq49, kq49, q49a, q49b, q49c⟩ := isOf hZ e48 Q47_0
          obtain ⟨_, _, ⟨T49, L49, k49, n49⟩, -, X49, ⟨Lc49, hQ49, l49, y49, z49⟩, st49⟩ := X48.interfaceBack hx (xi := (⟨"java/util/List", "get", "(I)Ljava/lang/Object;"⟩ : MethodName)) (y := (⟨"java/util/ArrayList", "get", "(I)Ljava/lang/Object;"⟩ : MethodName)) hown (mvT hZ (hw _ (List.mem_of_getElem? (i := 130) rfl))) (mvT hZ (hw _ (List.mem_of_getElem? (i := 131) rfl))) (mvT hZ (hw _ (List.mem_of_getElem? (i := 132) rfl))) (mvT hZ (hw _ (List.mem_of_getElem? (i := 133) rfl))) (mvT hZ (hw _ (List.mem_of_getElem? (i := 134) rfl))) (mvT hZ (hw _ (List.mem_of_getElem? (i := 135) rfl))) (mvT hZ (hw _ (List.mem_of_getElem? (i := 136) rfl))) (mvT hZ (hw _ (List.mem_of_getElem? (i := 77) rfl))) (by decide) (backOf (W := 0) (rm19_3_0 l Z a0 hw [] b47_0 b47_1 b10 b13 b16 T47.heap n0 Z47 Q47_2 Q47_4 Q47_0 Q47_1) hZ (hw _ (List.mem_of_getElem? (i := 137) rfl)) (hw _ (List.mem_of_getElem? (i := 35) rfl)) (by decide) (by decide)) q49a q49b q49c (g := (mkF m 213 #[.val (.int p1), .val (.int p2), .val (.int (3 : Int32)), .val (.int v4), .val (.int v5), .val (.int v6), .val (.ref b7), .val (.ref b10), .val (.ref b13), .val (.ref b16), .val (.int (1 : Int32)), .val (.ref b47_0)] [(.int (0 : Int32)), (.ref b47_0)])) rfl (by rw [hml]; rfl) (Steps.refl _) (argsL := [(.int (0 : Int32))]) (rest := []) (lenOf pd_10 rfl) rfl (by show 2 * 0 + _ ≤ _; exact Nat.le_of_eq rfl) (hb hby at_213) (fun _ _ => ⟨rfl, e48, (by decide : 22 + 0 ≤ _), (by decide : 89 + 0 ≤ _)⟩)
          dsimp only [Pt.U, Pt.locs, Pt.cells, Pt.slots] at X49 l49 y49 z49 st49 hQ49
          subst l49 y49 z49
          obtain ⟨rfl, N49q, e49⟩ := hQ49
          have N49 := Fr.app N48 N49q
          refine Go.trans st49 ?_
          show Go p e below _ (T49.setTop (mkF m 218 #[.val (.int p1), .val (.int p2), .val (.int (3 : Int32)), .val (.int v4), .val (.int v5), .val (.int v6), .val (.ref b7), .val (.ref b10), .val (.ref b13), .val (.ref b16), .val (.int (1 : Int32)), .val (.ref b47_0)] [(.ref b10)]))
          refine Go.step (fun t k => XS.aload X49.here hx rfl (hb hby at_218) rfl rfl k) ?_
          show Go p e below _ (T49.setTop (mkF m 220 #[.val (.int p1), .val (.int p2), .val (.int (3 : Int32)), .val (.int v4), .val (.int v5), .val (.int v6), .val (.ref b7), .val (.ref b10), .val (.ref b13), .val (.ref b16), .val (.int (1 : Int32)), .val (.ref b47_0)] [(.ref b10), (.ref b10)]))
          refine Go.step (fun t k => Jvm.RoadKit.acmp (g := (mkF m 220 #[.val (.int p1), .val (.int p2), .val (.int (3 : Int32)), .val (.int v4), .val (.int v5), .val (.int v6), .val (.ref b7), .val (.ref b10), .val (.ref b13), .val (.ref b16), .val (.int (1 : Int32)), .val (.ref b47_0)] [(.ref b10), (.ref b10)])) X49 hx rfl rfl rfl (pc0 := 220) (pc' := 225) (same := true) rfl (hb hby at_220) rfl (decide_eq_true rfl) (by decide) (by decide) k) ?_
          show Go p e below _ (T49.setTop (mkF m 225 #[.val (.int p1), .val (.int p2), .val (.int (3 : Int32)), .val (.int v4), .val (.int v5), .val (.int v6), .val (.ref b7), .val (.ref b10), .val (.ref b13), .val (.ref b16), .val (.int (1 : Int32)), .val (.ref b47_0)] []))
          refine Go.step (fun t k => XS.iloadN X49.here hx rfl (hb hby at_225) rfl k) ?_
          show Go p e below _ (T49.setTop (mkF m 226 #[.val (.int p1), .val (.int p2), .val (.int (3 : Int32)), .val (.int v4), .val (.int v5), .val (.int v6), .val (.ref b7), .val (.ref b10), .val (.ref b13), .val (.ref b16), .val (.int (1 : Int32)), .val (.ref b47_0)] [(.int (3 : Int32))]))
          refine Go.step (fun t k => XS.iconst X49.here hx rfl (hb hby at_226)  k) ?_
          show Go p e below _ (T49.setTop (mkF m 227 #[.val (.int p1), .val (.int p2), .val (.int (3 : Int32)), .val (.int v4), .val (.int v5), .val (.int v6), .val (.ref b7), .val (.ref b10), .val (.ref b13), .val (.ref b16), .val (.int (1 : Int32)), .val (.ref b47_0)] [(.int (2 : Int32)), (.int (3 : Int32))]))
          refine Go.step (fun t k => XS.icmpNo X49.here hx rfl (hb hby at_227) rfl (flt (by decide : ¬ ((3 : Int32) < (2 : Int32)))).1 k) ?_
          show Go p e below _ (T49.setTop (mkF m 230 #[.val (.int p1), .val (.int p2), .val (.int (3 : Int32)), .val (.int v4), .val (.int v5), .val (.int v6), .val (.ref b7), .val (.ref b10), .val (.ref b13), .val (.ref b16), .val (.int (1 : Int32)), .val (.ref b47_0)] []))
          refine Go.step (fun t k => XS.aload X49.here hx rfl (hb hby at_230) rfl rfl k) ?_
          show Go p e below _ (T49.setTop (mkF m 232 #[.val (.int p1), .val (.int p2), .val (.int (3 : Int32)), .val (.int v4), .val (.int v5), .val (.int v6), .val (.ref b7), .val (.ref b10), .val (.ref b13), .val (.ref b16), .val (.int (1 : Int32)), .val (.ref b47_0)] [(.ref b47_0)]))
          refine Go.step (fun t k => XS.iconst X49.here hx rfl (hb hby at_232)  k) ?_
          show Go p e below _ (T49.setTop (mkF m 233 #[.val (.int p1), .val (.int p2), .val (.int (3 : Int32)), .val (.int v4), .val (.int v5), .val (.int v6), .val (.ref b7), .val (.ref b10), .val (.ref b13), .val (.ref b16), .val (.int (1 : Int32)), .val (.ref b47_0)] [(.int (1 : Int32)), (.ref b47_0)]))
          obtain ⟨cq50, kq50, q50a, q50b, q50c⟩ := isOf hZ e49 Q47_0
          obtain ⟨_, _, ⟨T50, L50, k50, n50⟩, -, X50, ⟨Lc50, hQ50, l50, y50, z50⟩, st50⟩ := X49.interfaceBack hx (xi := (⟨"java/util/List", "get", "(I)Ljava/lang/Object;"⟩ : MethodName)) (y := (⟨"java/util/ArrayList", "get", "(I)Ljava/lang/Object;"⟩ : MethodName)) hown (mvT hZ (hw _ (List.mem_of_getElem? (i := 130) rfl))) (mvT hZ (hw _ (List.mem_of_getElem? (i := 131) rfl))) (mvT hZ (hw _ (List.mem_of_getElem? (i := 132) rfl))) (mvT hZ (hw _ (List.mem_of_getElem? (i := 133) rfl))) (mvT hZ (hw _ (List.mem_of_getElem? (i := 134) rfl))) (mvT hZ (hw _ (List.mem_of_getElem? (i := 135) rfl))) (mvT hZ (hw _ (List.mem_of_getElem? (i := 136) rfl))) (mvT hZ (hw _ (List.mem_of_getElem? (i := 77) rfl))) (by decide) (backOf (W := 0) (rm19_3_1 l Z a0 hw [] b47_0 b47_1 b10 b13 b16 T47.heap n0 Z47 Q47_2 Q47_4 Q47_0 Q47_1) hZ (hw _ (List.mem_of_getElem? (i := 137) rfl)) (hw _ (List.mem_of_getElem? (i := 35) rfl)) (by decide) (by decide)) q50a q50b q50c (g := (mkF m 233 #[.val (.int p1), .val (.int p2), .val (.int (3 : Int32)), .val (.int v4), .val (.int v5), .val (.int v6), .val (.ref b7), .val (.ref b10), .val (.ref b13), .val (.ref b16), .val (.int (1 : Int32)), .val (.ref b47_0)] [(.int (1 : Int32)), (.ref b47_0)])) rfl (by rw [hml]; rfl) (Steps.refl _) (argsL := [(.int (1 : Int32))]) (rest := []) (lenOf pd_10 rfl) rfl (by show 2 * 0 + _ ≤ _; exact Nat.le_of_eq rfl) (hb hby at_233) (fun _ _ => ⟨rfl, e49, (by decide : 22 + 0 ≤ _), (by decide : 89 + 0 ≤ _)⟩)
          dsimp only [Pt.U, Pt.locs, Pt.cells, Pt.slots] at X50 l50 y50 z50 st50 hQ50
          subst l50 y50 z50
          obtain ⟨rfl, N50q, e50⟩ := hQ50
          have N50 := Fr.app N49 N50q
          refine Go.trans st50 ?_
          show Go p e below _ (T50.setTop (mkF m 238 #[.val (.int p1), .val (.int p2), .val (.int (3 : Int32)), .val (.int v4), .val (.int v5), .val (.int v6), .val (.ref b7), .val (.ref b10), .val (.ref b13), .val (.ref b16), .val (.int (1 : Int32)), .val (.ref b47_0)] [(.ref b13)]))
          refine Go.step (fun t k => XS.aload X50.here hx rfl (hb hby at_238) rfl rfl k) ?_
          show Go p e below _ (T50.setTop (mkF m 240 #[.val (.int p1), .val (.int p2), .val (.int (3 : Int32)), .val (.int v4), .val (.int v5), .val (.int v6), .val (.ref b7), .val (.ref b10), .val (.ref b13), .val (.ref b16), .val (.int (1 : Int32)), .val (.ref b47_0)] [(.ref b13), (.ref b13)]))
          refine Go.step (fun t k => Jvm.RoadKit.acmp (g := (mkF m 240 #[.val (.int p1), .val (.int p2), .val (.int (3 : Int32)), .val (.int v4), .val (.int v5), .val (.int v6), .val (.ref b7), .val (.ref b10), .val (.ref b13), .val (.ref b16), .val (.int (1 : Int32)), .val (.ref b47_0)] [(.ref b13), (.ref b13)])) X50 hx rfl rfl rfl (pc0 := 240) (pc' := 245) (same := true) rfl (hb hby at_240) rfl (decide_eq_true rfl) (by decide) (by decide) k) ?_
          show Go p e below _ (T50.setTop (mkF m 245 #[.val (.int p1), .val (.int p2), .val (.int (3 : Int32)), .val (.int v4), .val (.int v5), .val (.int v6), .val (.ref b7), .val (.ref b10), .val (.ref b13), .val (.ref b16), .val (.int (1 : Int32)), .val (.ref b47_0)] []))
          refine Go.step (fun t k => XS.iloadN X50.here hx rfl (hb hby at_245) rfl k) ?_
          show Go p e below _ (T50.setTop (mkF m 246 #[.val (.int p1), .val (.int p2), .val (.int (3 : Int32)), .val (.int v4), .val (.int v5), .val (.int v6), .val (.ref b7), .val (.ref b10), .val (.ref b13), .val (.ref b16), .val (.int (1 : Int32)), .val (.ref b47_0)] [(.int (3 : Int32))]))
          refine Go.step (fun t k => XS.iconst X50.here hx rfl (hb hby at_246)  k) ?_
          show Go p e below _ (T50.setTop (mkF m 247 #[.val (.int p1), .val (.int p2), .val (.int (3 : Int32)), .val (.int v4), .val (.int v5), .val (.int v6), .val (.ref b7), .val (.ref b10), .val (.ref b13), .val (.ref b16), .val (.int (1 : Int32)), .val (.ref b47_0)] [(.int (3 : Int32)), (.int (3 : Int32))]))
          refine Go.step (fun t k => XS.icmpNo X50.here hx rfl (hb hby at_247) rfl (flt (by decide : ¬ ((3 : Int32) < (3 : Int32)))).1 k) ?_
          show Go p e below _ (T50.setTop (mkF m 250 #[.val (.int p1), .val (.int p2), .val (.int (3 : Int32)), .val (.int v4), .val (.int v5), .val (.int v6), .val (.ref b7), .val (.ref b10), .val (.ref b13), .val (.ref b16), .val (.int (1 : Int32)), .val (.ref b47_0)] []))
          refine Go.step (fun t k => XS.aload X50.here hx rfl (hb hby at_250) rfl rfl k) ?_
          show Go p e below _ (T50.setTop (mkF m 252 #[.val (.int p1), .val (.int p2), .val (.int (3 : Int32)), .val (.int v4), .val (.int v5), .val (.int v6), .val (.ref b7), .val (.ref b10), .val (.ref b13), .val (.ref b16), .val (.int (1 : Int32)), .val (.ref b47_0)] [(.ref b47_0)]))
          refine Go.step (fun t k => XS.iconst X50.here hx rfl (hb hby at_252)  k) ?_
          show Go p e below _ (T50.setTop (mkF m 253 #[.val (.int p1), .val (.int p2), .val (.int (3 : Int32)), .val (.int v4), .val (.int v5), .val (.int v6), .val (.ref b7), .val (.ref b10), .val (.ref b13), .val (.ref b16), .val (.int (1 : Int32)), .val (.ref b47_0)] [(.int (2 : Int32)), (.ref b47_0)]))
          obtain ⟨cq51, kq51, q51a, q51b, q51c⟩ := isOf hZ e50 Q47_0
          obtain ⟨_, _, ⟨T51, L51, k51, n51⟩, -, X51, ⟨Lc51, hQ51, l51, y51, z51⟩, st51⟩ := X50.interfaceBack hx (xi := (⟨"java/util/List", "get", "(I)Ljava/lang/Object;"⟩ : MethodName)) (y := (⟨"java/util/ArrayList", "get", "(I)Ljava/lang/Object;"⟩ : MethodName)) hown (mvT hZ (hw _ (List.mem_of_getElem? (i := 130) rfl))) (mvT hZ (hw _ (List.mem_of_getElem? (i := 131) rfl))) (mvT hZ (hw _ (List.mem_of_getElem? (i := 132) rfl))) (mvT hZ (hw _ (List.mem_of_getElem? (i := 133) rfl))) (mvT hZ (hw _ (List.mem_of_getElem? (i := 134) rfl))) (mvT hZ (hw _ (List.mem_of_getElem? (i := 135) rfl))) (mvT hZ (hw _ (List.mem_of_getElem? (i := 136) rfl))) (mvT hZ (hw _ (List.mem_of_getElem? (i := 77) rfl))) (by decide) (backOf (W := 0) (rm19_3_2 l Z a0 hw [] b47_0 b47_1 b10 b13 b16 T47.heap n0 Z47 Q47_2 Q47_4 Q47_0 Q47_1) hZ (hw _ (List.mem_of_getElem? (i := 137) rfl)) (hw _ (List.mem_of_getElem? (i := 35) rfl)) (by decide) (by decide)) q51a q51b q51c (g := (mkF m 253 #[.val (.int p1), .val (.int p2), .val (.int (3 : Int32)), .val (.int v4), .val (.int v5), .val (.int v6), .val (.ref b7), .val (.ref b10), .val (.ref b13), .val (.ref b16), .val (.int (1 : Int32)), .val (.ref b47_0)] [(.int (2 : Int32)), (.ref b47_0)])) rfl (by rw [hml]; rfl) (Steps.refl _) (argsL := [(.int (2 : Int32))]) (rest := []) (lenOf pd_10 rfl) rfl (by show 2 * 0 + _ ≤ _; exact Nat.le_of_eq rfl) (hb hby at_253) (fun _ _ => ⟨rfl, e50, (by decide : 22 + 0 ≤ _), (by decide : 89 + 0 ≤ _)⟩)
          dsimp only [Pt.U, Pt.locs, Pt.cells, Pt.slots] at X51 l51 y51 z51 st51 hQ51
          subst l51 y51 z51
          obtain ⟨rfl, N51q, e51⟩ := hQ51
          have N51 := Fr.app N50 N51q
          refine Go.trans st51 ?_
          show Go p e below _ (T51.setTop (mkF m 258 #[.val (.int p1), .val (.int p2), .val (.int (3 : Int32)), .val (.int v4), .val (.int v5), .val (.int v6), .val (.ref b7), .val (.ref b10), .val (.ref b13), .val (.ref b16), .val (.int (1 : Int32)), .val (.ref b47_0)] [(.ref b16)]))
          refine Go.step (fun t k => XS.aload X51.here hx rfl (hb hby at_258) rfl rfl k) ?_
          show Go p e below _ (T51.setTop (mkF m 260 #[.val (.int p1), .val (.int p2), .val (.int (3 : Int32)), .val (.int v4), .val (.int v5), .val (.int v6), .val (.ref b7), .val (.ref b10), .val (.ref b13), .val (.ref b16), .val (.int (1 : Int32)), .val (.ref b47_0)] [(.ref b16), (.ref b16)]))
          refine Go.step (fun t k => Jvm.RoadKit.acmp (g := (mkF m 260 #[.val (.int p1), .val (.int p2), .val (.int (3 : Int32)), .val (.int v4), .val (.int v5), .val (.int v6), .val (.ref b7), .val (.ref b10), .val (.ref b13), .val (.ref b16), .val (.int (1 : Int32)), .val (.ref b47_0)] [(.ref b16), (.ref b16)])) X51 hx rfl rfl rfl (pc0 := 260) (pc' := 265) (same := true) rfl (hb hby at_260) rfl (decide_eq_true rfl) (by decide) (by decide) k) ?_
          show Go p e below _ (T51.setTop (mkF m 265 #[.val (.int p1), .val (.int p2), .val (.int (3 : Int32)), .val (.int v4), .val (.int v5), .val (.int v6), .val (.ref b7), .val (.ref b10), .val (.ref b13), .val (.ref b16), .val (.int (1 : Int32)), .val (.ref b47_0)] []))
          refine Go.step (fun t k => XS.iloadN X51.here hx rfl (hb hby at_265) rfl k) ?_
          show Go p e below _ (T51.setTop (mkF m 266 #[.val (.int p1), .val (.int p2), .val (.int (3 : Int32)), .val (.int v4), .val (.int v5), .val (.int v6), .val (.ref b7), .val (.ref b10), .val (.ref b13), .val (.ref b16), .val (.int (1 : Int32)), .val (.ref b47_0)] [(.int (3 : Int32))]))
          refine Go.step (fun t k => XS.iconst X51.here hx rfl (hb hby at_266)  k) ?_
          show Go p e below _ (T51.setTop (mkF m 267 #[.val (.int p1), .val (.int p2), .val (.int (3 : Int32)), .val (.int v4), .val (.int v5), .val (.int v6), .val (.ref b7), .val (.ref b10), .val (.ref b13), .val (.ref b16), .val (.int (1 : Int32)), .val (.ref b47_0)] [(.int (1 : Int32)), (.int (3 : Int32))]))
          refine Go.step (fun t k => XS.icmpNo X51.here hx rfl (hb hby at_267) rfl (flt (by decide : ¬ ((3 : Int32) < (1 : Int32)))).1 k) ?_
          show Go p e below _ (T51.setTop (mkF m 270 #[.val (.int p1), .val (.int p2), .val (.int (3 : Int32)), .val (.int v4), .val (.int v5), .val (.int v6), .val (.ref b7), .val (.ref b10), .val (.ref b13), .val (.ref b16), .val (.int (1 : Int32)), .val (.ref b47_0)] []))
          refine Go.step (fun t k => XS.aload X51.here hx rfl (hb hby at_270) rfl rfl k) ?_
          show Go p e below _ (T51.setTop (mkF m 272 #[.val (.int p1), .val (.int p2), .val (.int (3 : Int32)), .val (.int v4), .val (.int v5), .val (.int v6), .val (.ref b7), .val (.ref b10), .val (.ref b13), .val (.ref b16), .val (.int (1 : Int32)), .val (.ref b47_0)] [(.ref b10)]))
          obtain ⟨cq52, kq52, q52a, q52b, q52c⟩ := isOf hZ e51 E_b10_47
          obtain ⟨_, _, ⟨T52, L52, k52, n52⟩, -, X52, ⟨Lc52, hQ52, l52, y52, z52⟩, st52⟩ := X51.virtualBack hx (y := (⟨"com/example/dataflow_to_dispatch/dataflowtodispatch/model/document/XmlElement", "position", "()I"⟩ : MethodName)) (z := (⟨"com/example/dataflow_to_dispatch/dataflowtodispatch/model/document/XmlElement", "position", "()I"⟩ : MethodName)) hown (mvT hZ (hw _ (List.mem_of_getElem? (i := 151) rfl))) (mvT hZ (hw _ (List.mem_of_getElem? (i := 152) rfl))) (notFace_of_selects (args := #[]) (mvT hZ (hw _ (List.mem_of_getElem? (i := 154) rfl)))) (mvT hZ (hw _ (List.mem_of_getElem? (i := 154) rfl))) (mvT hZ (hw _ (List.mem_of_getElem? (i := 153) rfl))) (by decide) (backOf (W := 0) (rm23_0 l Z a0 hw [] b10 T47.heap n0 Z47 F_previous_b10_47) hZ (hw _ (List.mem_of_getElem? (i := 155) rfl)) (hw _ (List.mem_of_getElem? (i := 2) rfl)) (by decide) (by decide)) q52a q52c (g := (mkF m 272 #[.val (.int p1), .val (.int p2), .val (.int (3 : Int32)), .val (.int v4), .val (.int v5), .val (.int v6), .val (.ref b7), .val (.ref b10), .val (.ref b13), .val (.ref b16), .val (.int (1 : Int32)), .val (.ref b47_0)] [(.ref b10)])) rfl (by rw [hml]; rfl) (Steps.refl _) (argsL := []) (rest := []) (lenOf pd_16 rfl) rfl (by show 2 * 0 + _ ≤ _; exact Nat.le_of_eq rfl) (hb hby at_272) (fun _ _ => ⟨rfl, e51, (by decide : 22 + 0 ≤ _), (by decide : 89 + 0 ≤ _)⟩)
          dsimp only [Pt.U, Pt.locs, Pt.cells, Pt.slots] at X52 l52 y52 z52 st52 hQ52
          subst l52 y52 z52
          obtain ⟨rfl, N52q, e52⟩ := hQ52
          have N52 := Fr.app N51 N52q
          refine Go.trans st52 ?_
          show Go p e below _ (T52.setTop (mkF m 275 #[.val (.int p1), .val (.int p2), .val (.int (3 : Int32)), .val (.int v4), .val (.int v5), .val (.int v6), .val (.ref b7), .val (.ref b10), .val (.ref b13), .val (.ref b16), .val (.int (1 : Int32)), .val (.ref b47_0)] [(.int f23_0)]))
          refine Go.step (fun t k => XS.iconst X52.here hx rfl (hb hby at_275)  k) ?_
          show Go p e below _ (T52.setTop (mkF m 276 #[.val (.int p1), .val (.int p2), .val (.int (3 : Int32)), .val (.int v4), .val (.int v5), .val (.int v6), .val (.ref b7), .val (.ref b10), .val (.ref b13), .val (.ref b16), .val (.int (1 : Int32)), .val (.ref b47_0)] [(.int (1 : Int32)), (.int f23_0)]))
          by_cases hc53 : f23_0 = (1 : Int32)
          · refine Go.step (fun t k => XS.icmpYes X52.here hx rfl (pc0 := 276) (pc' := 281) rfl (hb hby at_276) rfl (teq hc53).1 (by decide) (by decide) k) ?_
            show Go p e below _ (T52.setTop (mkF m 281 #[.val (.int p1), .val (.int p2), .val (.int (3 : Int32)), .val (.int v4), .val (.int v5), .val (.int v6), .val (.ref b7), .val (.ref b10), .val (.ref b13), .val (.ref b16), .val (.int (1 : Int32)), .val (.ref b47_0)] []))
            refine Go.step (fun t k => XS.iloadN X52.here hx rfl (hb hby at_281) rfl k) ?_
            show Go p e below _ (T52.setTop (mkF m 282 #[.val (.int p1), .val (.int p2), .val (.int (3 : Int32)), .val (.int v4), .val (.int v5), .val (.int v6), .val (.ref b7), .val (.ref b10), .val (.ref b13), .val (.ref b16), .val (.int (1 : Int32)), .val (.ref b47_0)] [(.int (3 : Int32))]))
            refine Go.step (fun t k => XS.iconst X52.here hx rfl (hb hby at_282)  k) ?_
            show Go p e below _ (T52.setTop (mkF m 283 #[.val (.int p1), .val (.int p2), .val (.int (3 : Int32)), .val (.int v4), .val (.int v5), .val (.int v6), .val (.ref b7), .val (.ref b10), .val (.ref b13), .val (.ref b16), .val (.int (1 : Int32)), .val (.ref b47_0)] [(.int (2 : Int32)), (.int (3 : Int32))]))
            refine Go.step (fun t k => XS.icmpNo X52.here hx rfl (hb hby at_283) rfl (flt (by decide : ¬ ((3 : Int32) < (2 : Int32)))).1 k) ?_
            show Go p e below _ (T52.setTop (mkF m 286 #[.val (.int p1), .val (.int p2), .val (.int (3 : Int32)), .val (.int v4), .val (.int v5), .val (.int v6), .val (.ref b7), .val (.ref b10), .val (.ref b13), .val (.ref b16), .val (.int (1 : Int32)), .val (.ref b47_0)] []))
            refine Go.step (fun t k => XS.aload X52.here hx rfl (hb hby at_286) rfl rfl k) ?_
            show Go p e below _ (T52.setTop (mkF m 288 #[.val (.int p1), .val (.int p2), .val (.int (3 : Int32)), .val (.int v4), .val (.int v5), .val (.int v6), .val (.ref b7), .val (.ref b10), .val (.ref b13), .val (.ref b16), .val (.int (1 : Int32)), .val (.ref b47_0)] [(.ref b13)]))
            obtain ⟨cq54, kq54, q54a, q54b, q54c⟩ := isOf hZ e52 E_b13_47
            obtain ⟨_, _, ⟨T54, L54, k54, n54⟩, -, X54, ⟨Lc54, hQ54, l54, y54, z54⟩, st54⟩ := X52.virtualBack hx (y := (⟨"com/example/dataflow_to_dispatch/dataflowtodispatch/model/document/XmlElement", "position", "()I"⟩ : MethodName)) (z := (⟨"com/example/dataflow_to_dispatch/dataflowtodispatch/model/document/XmlElement", "position", "()I"⟩ : MethodName)) hown (mvT hZ (hw _ (List.mem_of_getElem? (i := 151) rfl))) (mvT hZ (hw _ (List.mem_of_getElem? (i := 152) rfl))) (notFace_of_selects (args := #[]) (mvT hZ (hw _ (List.mem_of_getElem? (i := 154) rfl)))) (mvT hZ (hw _ (List.mem_of_getElem? (i := 154) rfl))) (mvT hZ (hw _ (List.mem_of_getElem? (i := 153) rfl))) (by decide) (backOf (W := 0) (rm23_1 l Z a0 hw [] b13 b10 b14_0 b14_1 (upA (fun _ => (0 : Int32)) 0 (nar .byte (v5.toInt8.toInt32))) b11_0 b11_1 (upA (fun _ => (0 : Int32)) 0 (nar .byte (v4.toInt8.toInt32))) wC T47.heap n0 Z47 F_previous_b13_47 F_name_b13_47 E_b14_0_47 F_coder_b14_0_47 F_value_b14_0_47 A_b14_1_47 F_name_b10_47 E_b11_0_47 F_coder_b11_0_47 F_value_b11_0_47 A_b11_1_47 F_previous_b10_47 hC S_COMPACT_STRINGS O47 ne_b11_0_b14_0) hZ (hw _ (List.mem_of_getElem? (i := 155) rfl)) (hw _ (List.mem_of_getElem? (i := 2) rfl)) (by decide) (by decide)) q54a q54c (g := (mkF m 288 #[.val (.int p1), .val (.int p2), .val (.int (3 : Int32)), .val (.int v4), .val (.int v5), .val (.int v6), .val (.ref b7), .val (.ref b10), .val (.ref b13), .val (.ref b16), .val (.int (1 : Int32)), .val (.ref b47_0)] [(.ref b13)])) rfl (by rw [hml]; rfl) (Steps.refl _) (argsL := []) (rest := []) (lenOf pd_16 rfl) rfl (by show 2 * 0 + _ ≤ _; exact Nat.le_of_eq rfl) (hb hby at_288) (fun _ _ => ⟨rfl, e52, (by decide : 22 + 0 ≤ _), (by decide : 89 + 0 ≤ _)⟩)
            dsimp only [Pt.U, Pt.locs, Pt.cells, Pt.slots] at X54 l54 y54 z54 st54 hQ54
            subst l54 y54 z54
            obtain ⟨rfl, N54q, e54⟩ := hQ54
            have N54 := Fr.app N52 N54q
            refine Go.trans st54 ?_
            show Go p e below _ (T54.setTop (mkF m 291 #[.val (.int p1), .val (.int p2), .val (.int (3 : Int32)), .val (.int v4), .val (.int v5), .val (.int v6), .val (.ref b7), .val (.ref b10), .val (.ref b13), .val (.ref b16), .val (.int (1 : Int32)), .val (.ref b47_0)] [(.int (f23_1 (upA (fun _ => (0 : Int32)) 0 (nar .byte (v5.toInt8.toInt32))) (upA (fun _ => (0 : Int32)) 0 (nar .byte (v4.toInt8.toInt32))) wC))]))
            refine Go.step (fun t k => XS.iconst X54.here hx rfl (hb hby at_291)  k) ?_
            show Go p e below _ (T54.setTop (mkF m 292 #[.val (.int p1), .val (.int p2), .val (.int (3 : Int32)), .val (.int v4), .val (.int v5), .val (.int v6), .val (.ref b7), .val (.ref b10), .val (.ref b13), .val (.ref b16), .val (.int (1 : Int32)), .val (.ref b47_0)] [(.int (1 : Int32)), (.int (f23_1 (upA (fun _ => (0 : Int32)) 0 (nar .byte (v5.toInt8.toInt32))) (upA (fun _ => (0 : Int32)) 0 (nar .byte (v4.toInt8.toInt32))) wC))]))
            refine Go.step (fun t k => XS.iloadN X54.here hx rfl (hb hby at_292) rfl k) ?_
            show Go p e below _ (T54.setTop (mkF m 293 #[.val (.int p1), .val (.int p2), .val (.int (3 : Int32)), .val (.int v4), .val (.int v5), .val (.int v6), .val (.ref b7), .val (.ref b10), .val (.ref b13), .val (.ref b16), .val (.int (1 : Int32)), .val (.ref b47_0)] [(.int v4), (.int (1 : Int32)), (.int (f23_1 (upA (fun _ => (0 : Int32)) 0 (nar .byte (v5.toInt8.toInt32))) (upA (fun _ => (0 : Int32)) 0 (nar .byte (v4.toInt8.toInt32))) wC))]))
            refine Go.step (fun t k => XS.iload X54.here hx rfl (hb hby at_293) rfl k) ?_
            show Go p e below _ (T54.setTop (mkF m 295 #[.val (.int p1), .val (.int p2), .val (.int (3 : Int32)), .val (.int v4), .val (.int v5), .val (.int v6), .val (.ref b7), .val (.ref b10), .val (.ref b13), .val (.ref b16), .val (.int (1 : Int32)), .val (.ref b47_0)] [(.int v5), (.int v4), (.int (1 : Int32)), (.int (f23_1 (upA (fun _ => (0 : Int32)) 0 (nar .byte (v5.toInt8.toInt32))) (upA (fun _ => (0 : Int32)) 0 (nar .byte (v4.toInt8.toInt32))) wC))]))
            obtain ⟨v56, hv56⟩ : ∃ z : Int32, z = (if v4 = v5 then (1 : Int32) else (0 : Int32)) := ⟨_, rfl⟩
            have J295 : Go p e below (AtF p l e room_1 s m #[(.int p1), (.int p2)] below meth c n0 22 89 T47.heap (mkF m 303 #[.val (.int p1), .val (.int p2), .val (.int (3 : Int32)), .val (.int v4), .val (.int v5), .val (.int v6), .val (.ref b7), .val (.ref b10), .val (.ref b13), .val (.ref b16), .val (.int (1 : Int32)), .val (.ref b47_0)] [(.int v56), (.int (1 : Int32)), (.int (f23_1 (upA (fun _ => (0 : Int32)) 0 (nar .byte (v5.toInt8.toInt32))) (upA (fun _ => (0 : Int32)) 0 (nar .byte (v4.toInt8.toInt32))) wC))])) (T54.setTop (mkF m 295 #[.val (.int p1), .val (.int p2), .val (.int (3 : Int32)), .val (.int v4), .val (.int v5), .val (.int v6), .val (.ref b7), .val (.ref b10), .val (.ref b13), .val (.ref b16), .val (.int (1 : Int32)), .val (.ref b47_0)] [(.int v5), (.int v4), (.int (1 : Int32)), (.int (f23_1 (upA (fun _ => (0 : Int32)) 0 (nar .byte (v5.toInt8.toInt32))) (upA (fun _ => (0 : Int32)) 0 (nar .byte (v4.toInt8.toInt32))) wC))])) := by
              by_cases hc55 : v4 = v5
              · refine Go.step (fun t k => XS.icmpNo X54.here hx rfl (hb hby at_295) rfl (teq hc55).2 k) ?_
                show Go p e below _ (T54.setTop (mkF m 298 #[.val (.int p1), .val (.int p2), .val (.int (3 : Int32)), .val (.int v4), .val (.int v5), .val (.int v6), .val (.ref b7), .val (.ref b10), .val (.ref b13), .val (.ref b16), .val (.int (1 : Int32)), .val (.ref b47_0)] [(.int (1 : Int32)), (.int (f23_1 (upA (fun _ => (0 : Int32)) 0 (nar .byte (v5.toInt8.toInt32))) (upA (fun _ => (0 : Int32)) 0 (nar .byte (v4.toInt8.toInt32))) wC))]))
                refine Go.step (fun t k => XS.iconst X54.here hx rfl (hb hby at_298)  k) ?_
                show Go p e below _ (T54.setTop (mkF m 299 #[.val (.int p1), .val (.int p2), .val (.int (3 : Int32)), .val (.int v4), .val (.int v5), .val (.int v6), .val (.ref b7), .val (.ref b10), .val (.ref b13), .val (.ref b16), .val (.int (1 : Int32)), .val (.ref b47_0)] [(.int (1 : Int32)), (.int (1 : Int32)), (.int (f23_1 (upA (fun _ => (0 : Int32)) 0 (nar .byte (v5.toInt8.toInt32))) (upA (fun _ => (0 : Int32)) 0 (nar .byte (v4.toInt8.toInt32))) wC))]))
                refine Go.step (fun t k => XS.goto X54.here hx rfl (pc0 := 299) (pc' := 303) rfl (hb hby at_299) (by decide) (by decide) k) ?_
                show Go p e below _ (T54.setTop (mkF m 303 #[.val (.int p1), .val (.int p2), .val (.int (3 : Int32)), .val (.int v4), .val (.int v5), .val (.int v6), .val (.ref b7), .val (.ref b10), .val (.ref b13), .val (.ref b16), .val (.int (1 : Int32)), .val (.ref b47_0)] [(.int (1 : Int32)), (.int (1 : Int32)), (.int (f23_1 (upA (fun _ => (0 : Int32)) 0 (nar .byte (v5.toInt8.toInt32))) (upA (fun _ => (0 : Int32)) 0 (nar .byte (v4.toInt8.toInt32))) wC))]))
                exact Go.here ⟨_, _, by simp only [hv56, if_pos hc55], X54, N54, e54⟩
              · refine Go.step (fun t k => XS.icmpYes X54.here hx rfl (pc0 := 295) (pc' := 302) rfl (hb hby at_295) rfl (feq hc55).2 (by decide) (by decide) k) ?_
                show Go p e below _ (T54.setTop (mkF m 302 #[.val (.int p1), .val (.int p2), .val (.int (3 : Int32)), .val (.int v4), .val (.int v5), .val (.int v6), .val (.ref b7), .val (.ref b10), .val (.ref b13), .val (.ref b16), .val (.int (1 : Int32)), .val (.ref b47_0)] [(.int (1 : Int32)), (.int (f23_1 (upA (fun _ => (0 : Int32)) 0 (nar .byte (v5.toInt8.toInt32))) (upA (fun _ => (0 : Int32)) 0 (nar .byte (v4.toInt8.toInt32))) wC))]))
                refine Go.step (fun t k => XS.iconst X54.here hx rfl (hb hby at_302)  k) ?_
                show Go p e below _ (T54.setTop (mkF m 303 #[.val (.int p1), .val (.int p2), .val (.int (3 : Int32)), .val (.int v4), .val (.int v5), .val (.int v6), .val (.ref b7), .val (.ref b10), .val (.ref b13), .val (.ref b16), .val (.int (1 : Int32)), .val (.ref b47_0)] [(.int (0 : Int32)), (.int (1 : Int32)), (.int (f23_1 (upA (fun _ => (0 : Int32)) 0 (nar .byte (v5.toInt8.toInt32))) (upA (fun _ => (0 : Int32)) 0 (nar .byte (v4.toInt8.toInt32))) wC))]))
                exact Go.here ⟨_, _, by simp only [hv56, if_neg hc55], X54, N54, e54⟩
            obtain ⟨_, st57, T57, Lj57, rfl, X57, N57, e57⟩ := J295
            refine Go.trans st57 ?_
            show Go p e below _ (T57.setTop (mkF m 303 #[.val (.int p1), .val (.int p2), .val (.int (3 : Int32)), .val (.int v4), .val (.int v5), .val (.int v6), .val (.ref b7), .val (.ref b10), .val (.ref b13), .val (.ref b16), .val (.int (1 : Int32)), .val (.ref b47_0)] [(.int v56), (.int (1 : Int32)), (.int (f23_1 (upA (fun _ => (0 : Int32)) 0 (nar .byte (v5.toInt8.toInt32))) (upA (fun _ => (0 : Int32)) 0 (nar .byte (v4.toInt8.toInt32))) wC))]))
            refine Go.step (fun t k => XS.iadd X57.here hx rfl (hb hby at_303) rfl k) ?_
            show Go p e below _ (T57.setTop (mkF m 304 #[.val (.int p1), .val (.int p2), .val (.int (3 : Int32)), .val (.int v4), .val (.int v5), .val (.int v6), .val (.ref b7), .val (.ref b10), .val (.ref b13), .val (.ref b16), .val (.int (1 : Int32)), .val (.ref b47_0)] [(.int ((1 : Int32) + v56)), (.int (f23_1 (upA (fun _ => (0 : Int32)) 0 (nar .byte (v5.toInt8.toInt32))) (upA (fun _ => (0 : Int32)) 0 (nar .byte (v4.toInt8.toInt32))) wC))]))
            by_cases hc58 : (f23_1 (upA (fun _ => (0 : Int32)) 0 (nar .byte (v5.toInt8.toInt32))) (upA (fun _ => (0 : Int32)) 0 (nar .byte (v4.toInt8.toInt32))) wC) = ((1 : Int32) + v56)
            · refine Go.step (fun t k => XS.icmpYes X57.here hx rfl (pc0 := 304) (pc' := 309) rfl (hb hby at_304) rfl (teq hc58).1 (by decide) (by decide) k) ?_
              show Go p e below _ (T57.setTop (mkF m 309 #[.val (.int p1), .val (.int p2), .val (.int (3 : Int32)), .val (.int v4), .val (.int v5), .val (.int v6), .val (.ref b7), .val (.ref b10), .val (.ref b13), .val (.ref b16), .val (.int (1 : Int32)), .val (.ref b47_0)] []))
              refine Go.step (fun t k => XS.iloadN X57.here hx rfl (hb hby at_309) rfl k) ?_
              show Go p e below _ (T57.setTop (mkF m 310 #[.val (.int p1), .val (.int p2), .val (.int (3 : Int32)), .val (.int v4), .val (.int v5), .val (.int v6), .val (.ref b7), .val (.ref b10), .val (.ref b13), .val (.ref b16), .val (.int (1 : Int32)), .val (.ref b47_0)] [(.int (3 : Int32))]))
              refine Go.step (fun t k => XS.iconst X57.here hx rfl (hb hby at_310)  k) ?_
              show Go p e below _ (T57.setTop (mkF m 311 #[.val (.int p1), .val (.int p2), .val (.int (3 : Int32)), .val (.int v4), .val (.int v5), .val (.int v6), .val (.ref b7), .val (.ref b10), .val (.ref b13), .val (.ref b16), .val (.int (1 : Int32)), .val (.ref b47_0)] [(.int (3 : Int32)), (.int (3 : Int32))]))
              refine Go.step (fun t k => XS.icmpNo X57.here hx rfl (hb hby at_311) rfl (flt (by decide : ¬ ((3 : Int32) < (3 : Int32)))).1 k) ?_
              show Go p e below _ (T57.setTop (mkF m 314 #[.val (.int p1), .val (.int p2), .val (.int (3 : Int32)), .val (.int v4), .val (.int v5), .val (.int v6), .val (.ref b7), .val (.ref b10), .val (.ref b13), .val (.ref b16), .val (.int (1 : Int32)), .val (.ref b47_0)] []))
              refine Go.step (fun t k => XS.aload X57.here hx rfl (hb hby at_314) rfl rfl k) ?_
              show Go p e below _ (T57.setTop (mkF m 316 #[.val (.int p1), .val (.int p2), .val (.int (3 : Int32)), .val (.int v4), .val (.int v5), .val (.int v6), .val (.ref b7), .val (.ref b10), .val (.ref b13), .val (.ref b16), .val (.int (1 : Int32)), .val (.ref b47_0)] [(.ref b16)]))
              obtain ⟨cq59, kq59, q59a, q59b, q59c⟩ := isOf hZ e57 E_b16_47
              obtain ⟨_, _, ⟨T59, L59, k59, n59⟩, -, X59, ⟨Lc59, hQ59, l59, y59, z59⟩, st59⟩ := X57.virtualBack hx (y := (⟨"com/example/dataflow_to_dispatch/dataflowtodispatch/model/document/XmlElement", "position", "()I"⟩ : MethodName)) (z := (⟨"com/example/dataflow_to_dispatch/dataflowtodispatch/model/document/XmlElement", "position", "()I"⟩ : MethodName)) hown (mvT hZ (hw _ (List.mem_of_getElem? (i := 151) rfl))) (mvT hZ (hw _ (List.mem_of_getElem? (i := 152) rfl))) (notFace_of_selects (args := #[]) (mvT hZ (hw _ (List.mem_of_getElem? (i := 154) rfl)))) (mvT hZ (hw _ (List.mem_of_getElem? (i := 154) rfl))) (mvT hZ (hw _ (List.mem_of_getElem? (i := 153) rfl))) (by decide) (backOf (W := 0) (rm23_2 l Z a0 hw [] b16 b13 b17_0 b17_1 (upA (fun _ => (0 : Int32)) 0 (nar .byte (v6.toInt8.toInt32))) b14_0 b14_1 (upA (fun _ => (0 : Int32)) 0 (nar .byte (v5.toInt8.toInt32))) b10 b11_0 b11_1 (upA (fun _ => (0 : Int32)) 0 (nar .byte (v4.toInt8.toInt32))) wC T47.heap n0 Z47 F_previous_b16_47 F_name_b16_47 E_b17_0_47 F_coder_b17_0_47 F_value_b17_0_47 A_b17_1_47 F_name_b13_47 E_b14_0_47 F_coder_b14_0_47 F_value_b14_0_47 A_b14_1_47 F_previous_b13_47 F_name_b10_47 E_b11_0_47 F_coder_b11_0_47 F_value_b11_0_47 A_b11_1_47 F_previous_b10_47 hC S_COMPACT_STRINGS O47 ne_b14_0_b17_0 ne_b11_0_b17_0) hZ (hw _ (List.mem_of_getElem? (i := 155) rfl)) (hw _ (List.mem_of_getElem? (i := 2) rfl)) (by decide) (by decide)) q59a q59c (g := (mkF m 316 #[.val (.int p1), .val (.int p2), .val (.int (3 : Int32)), .val (.int v4), .val (.int v5), .val (.int v6), .val (.ref b7), .val (.ref b10), .val (.ref b13), .val (.ref b16), .val (.int (1 : Int32)), .val (.ref b47_0)] [(.ref b16)])) rfl (by rw [hml]; rfl) (Steps.refl _) (argsL := []) (rest := []) (lenOf pd_16 rfl) rfl (by show 2 * 0 + _ ≤ _; exact Nat.le_of_eq rfl) (hb hby at_316) (fun _ _ => ⟨rfl, e57, (by decide : 22 + 0 ≤ _), (by decide : 89 + 0 ≤ _)⟩)
              dsimp only [Pt.U, Pt.locs, Pt.cells, Pt.slots] at X59 l59 y59 z59 st59 hQ59
              subst l59 y59 z59
              obtain ⟨rfl, N59q, e59⟩ := hQ59
              have N59 := Fr.app N57 N59q
              refine Go.trans st59 ?_
              show Go p e below _ (T59.setTop (mkF m 319 #[.val (.int p1), .val (.int p2), .val (.int (3 : Int32)), .val (.int v4), .val (.int v5), .val (.int v6), .val (.ref b7), .val (.ref b10), .val (.ref b13), .val (.ref b16), .val (.int (1 : Int32)), .val (.ref b47_0)] [(.int (f23_2 (upA (fun _ => (0 : Int32)) 0 (nar .byte (v6.toInt8.toInt32))) (upA (fun _ => (0 : Int32)) 0 (nar .byte (v5.toInt8.toInt32))) (upA (fun _ => (0 : Int32)) 0 (nar .byte (v4.toInt8.toInt32))) wC))]))
              refine Go.step (fun t k => XS.iconst X59.here hx rfl (hb hby at_319)  k) ?_
              show Go p e below _ (T59.setTop (mkF m 320 #[.val (.int p1), .val (.int p2), .val (.int (3 : Int32)), .val (.int v4), .val (.int v5), .val (.int v6), .val (.ref b7), .val (.ref b10), .val (.ref b13), .val (.ref b16), .val (.int (1 : Int32)), .val (.ref b47_0)] [(.int (1 : Int32)), (.int (f23_2 (upA (fun _ => (0 : Int32)) 0 (nar .byte (v6.toInt8.toInt32))) (upA (fun _ => (0 : Int32)) 0 (nar .byte (v5.toInt8.toInt32))) (upA (fun _ => (0 : Int32)) 0 (nar .byte (v4.toInt8.toInt32))) wC))]))
              refine Go.step (fun t k => XS.iloadN X59.here hx rfl (hb hby at_320) rfl k) ?_
              show Go p e below _ (T59.setTop (mkF m 321 #[.val (.int p1), .val (.int p2), .val (.int (3 : Int32)), .val (.int v4), .val (.int v5), .val (.int v6), .val (.ref b7), .val (.ref b10), .val (.ref b13), .val (.ref b16), .val (.int (1 : Int32)), .val (.ref b47_0)] [(.int v4), (.int (1 : Int32)), (.int (f23_2 (upA (fun _ => (0 : Int32)) 0 (nar .byte (v6.toInt8.toInt32))) (upA (fun _ => (0 : Int32)) 0 (nar .byte (v5.toInt8.toInt32))) (upA (fun _ => (0 : Int32)) 0 (nar .byte (v4.toInt8.toInt32))) wC))]))
              refine Go.step (fun t k => XS.iload X59.here hx rfl (hb hby at_321) rfl k) ?_
              show Go p e below _ (T59.setTop (mkF m 323 #[.val (.int p1), .val (.int p2), .val (.int (3 : Int32)), .val (.int v4), .val (.int v5), .val (.int v6), .val (.ref b7), .val (.ref b10), .val (.ref b13), .val (.ref b16), .val (.int (1 : Int32)), .val (.ref b47_0)] [(.int v6), (.int v4), (.int (1 : Int32)), (.int (f23_2 (upA (fun _ => (0 : Int32)) 0 (nar .byte (v6.toInt8.toInt32))) (upA (fun _ => (0 : Int32)) 0 (nar .byte (v5.toInt8.toInt32))) (upA (fun _ => (0 : Int32)) 0 (nar .byte (v4.toInt8.toInt32))) wC))]))
              obtain ⟨v61, hv61⟩ : ∃ z : Int32, z = (if v4 = v6 then (1 : Int32) else (0 : Int32)) := ⟨_, rfl⟩
              have J323 : Go p e below (AtF p l e room_1 s m #[(.int p1), (.int p2)] below meth c n0 22 89 T47.heap (mkF m 331 #[.val (.int p1), .val (.int p2), .val (.int (3 : Int32)), .val (.int v4), .val (.int v5), .val (.int v6), .val (.ref b7), .val (.ref b10), .val (.ref b13), .val (.ref b16), .val (.int (1 : Int32)), .val (.ref b47_0)] [(.int v61), (.int (1 : Int32)), (.int (f23_2 (upA (fun _ => (0 : Int32)) 0 (nar .byte (v6.toInt8.toInt32))) (upA (fun _ => (0 : Int32)) 0 (nar .byte (v5.toInt8.toInt32))) (upA (fun _ => (0 : Int32)) 0 (nar .byte (v4.toInt8.toInt32))) wC))])) (T59.setTop (mkF m 323 #[.val (.int p1), .val (.int p2), .val (.int (3 : Int32)), .val (.int v4), .val (.int v5), .val (.int v6), .val (.ref b7), .val (.ref b10), .val (.ref b13), .val (.ref b16), .val (.int (1 : Int32)), .val (.ref b47_0)] [(.int v6), (.int v4), (.int (1 : Int32)), (.int (f23_2 (upA (fun _ => (0 : Int32)) 0 (nar .byte (v6.toInt8.toInt32))) (upA (fun _ => (0 : Int32)) 0 (nar .byte (v5.toInt8.toInt32))) (upA (fun _ => (0 : Int32)) 0 (nar .byte (v4.toInt8.toInt32))) wC))])) := by
                by_cases hc60 : v4 = v6
                · refine Go.step (fun t k => XS.icmpNo X59.here hx rfl (hb hby at_323) rfl (teq hc60).2 k) ?_
                  show Go p e below _ (T59.setTop (mkF m 326 #[.val (.int p1), .val (.int p2), .val (.int (3 : Int32)), .val (.int v4), .val (.int v5), .val (.int v6), .val (.ref b7), .val (.ref b10), .val (.ref b13), .val (.ref b16), .val (.int (1 : Int32)), .val (.ref b47_0)] [(.int (1 : Int32)), (.int (f23_2 (upA (fun _ => (0 : Int32)) 0 (nar .byte (v6.toInt8.toInt32))) (upA (fun _ => (0 : Int32)) 0 (nar .byte (v5.toInt8.toInt32))) (upA (fun _ => (0 : Int32)) 0 (nar .byte (v4.toInt8.toInt32))) wC))]))
                  refine Go.step (fun t k => XS.iconst X59.here hx rfl (hb hby at_326)  k) ?_
                  show Go p e below _ (T59.setTop (mkF m 327 #[.val (.int p1), .val (.int p2), .val (.int (3 : Int32)), .val (.int v4), .val (.int v5), .val (.int v6), .val (.ref b7), .val (.ref b10), .val (.ref b13), .val (.ref b16), .val (.int (1 : Int32)), .val (.ref b47_0)] [(.int (1 : Int32)), (.int (1 : Int32)), (.int (f23_2 (upA (fun _ => (0 : Int32)) 0 (nar .byte (v6.toInt8.toInt32))) (upA (fun _ => (0 : Int32)) 0 (nar .byte (v5.toInt8.toInt32))) (upA (fun _ => (0 : Int32)) 0 (nar .byte (v4.toInt8.toInt32))) wC))]))
                  refine Go.step (fun t k => XS.goto X59.here hx rfl (pc0 := 327) (pc' := 331) rfl (hb hby at_327) (by decide) (by decide) k) ?_
                  show Go p e below _ (T59.setTop (mkF m 331 #[.val (.int p1), .val (.int p2), .val (.int (3 : Int32)), .val (.int v4), .val (.int v5), .val (.int v6), .val (.ref b7), .val (.ref b10), .val (.ref b13), .val (.ref b16), .val (.int (1 : Int32)), .val (.ref b47_0)] [(.int (1 : Int32)), (.int (1 : Int32)), (.int (f23_2 (upA (fun _ => (0 : Int32)) 0 (nar .byte (v6.toInt8.toInt32))) (upA (fun _ => (0 : Int32)) 0 (nar .byte (v5.toInt8.toInt32))) (upA (fun _ => (0 : Int32)) 0 (nar .byte (v4.toInt8.toInt32))) wC))]))
                  exact Go.here ⟨_, _, by simp only [hv61, if_pos hc60], X59, N59, e59⟩
                · refine Go.step (fun t k => XS.icmpYes X59.here hx rfl (pc0 := 323) (pc' := 330) rfl (hb hby at_323) rfl (feq hc60).2 (by decide) (by decide) k) ?_
                  show Go p e below _ (T59.setTop (mkF m 330 #[.val (.int p1), .val (.int p2), .val (.int (3 : Int32)), .val (.int v4), .val (.int v5), .val (.int v6), .val (.ref b7), .val (.ref b10), .val (.ref b13), .val (.ref b16), .val (.int (1 : Int32)), .val (.ref b47_0)] [(.int (1 : Int32)), (.int (f23_2 (upA (fun _ => (0 : Int32)) 0 (nar .byte (v6.toInt8.toInt32))) (upA (fun _ => (0 : Int32)) 0 (nar .byte (v5.toInt8.toInt32))) (upA (fun _ => (0 : Int32)) 0 (nar .byte (v4.toInt8.toInt32))) wC))]))
                  refine Go.step (fun t k => XS.iconst X59.here hx rfl (hb hby at_330)  k) ?_
                  show Go p e below _ (T59.setTop (mkF m 331 #[.val (.int p1), .val (.int p2), .val (.int (3 : Int32)), .val (.int v4), .val (.int v5), .val (.int v6), .val (.ref b7), .val (.ref b10), .val (.ref b13), .val (.ref b16), .val (.int (1 : Int32)), .val (.ref b47_0)] [(.int (0 : Int32)), (.int (1 : Int32)), (.int (f23_2 (upA (fun _ => (0 : Int32)) 0 (nar .byte (v6.toInt8.toInt32))) (upA (fun _ => (0 : Int32)) 0 (nar .byte (v5.toInt8.toInt32))) (upA (fun _ => (0 : Int32)) 0 (nar .byte (v4.toInt8.toInt32))) wC))]))
                  exact Go.here ⟨_, _, by simp only [hv61, if_neg hc60], X59, N59, e59⟩
              obtain ⟨_, st62, T62, Lj62, rfl, X62, N62, e62⟩ := J323
              refine Go.trans st62 ?_
              show Go p e below _ (T62.setTop (mkF m 331 #[.val (.int p1), .val (.int p2), .val (.int (3 : Int32)), .val (.int v4), .val (.int v5), .val (.int v6), .val (.ref b7), .val (.ref b10), .val (.ref b13), .val (.ref b16), .val (.int (1 : Int32)), .val (.ref b47_0)] [(.int v61), (.int (1 : Int32)), (.int (f23_2 (upA (fun _ => (0 : Int32)) 0 (nar .byte (v6.toInt8.toInt32))) (upA (fun _ => (0 : Int32)) 0 (nar .byte (v5.toInt8.toInt32))) (upA (fun _ => (0 : Int32)) 0 (nar .byte (v4.toInt8.toInt32))) wC))]))
              refine Go.step (fun t k => XS.iadd X62.here hx rfl (hb hby at_331) rfl k) ?_
              show Go p e below _ (T62.setTop (mkF m 332 #[.val (.int p1), .val (.int p2), .val (.int (3 : Int32)), .val (.int v4), .val (.int v5), .val (.int v6), .val (.ref b7), .val (.ref b10), .val (.ref b13), .val (.ref b16), .val (.int (1 : Int32)), .val (.ref b47_0)] [(.int ((1 : Int32) + v61)), (.int (f23_2 (upA (fun _ => (0 : Int32)) 0 (nar .byte (v6.toInt8.toInt32))) (upA (fun _ => (0 : Int32)) 0 (nar .byte (v5.toInt8.toInt32))) (upA (fun _ => (0 : Int32)) 0 (nar .byte (v4.toInt8.toInt32))) wC))]))
              refine Go.step (fun t k => XS.iload X62.here hx rfl (hb hby at_332) rfl k) ?_
              show Go p e below _ (T62.setTop (mkF m 334 #[.val (.int p1), .val (.int p2), .val (.int (3 : Int32)), .val (.int v4), .val (.int v5), .val (.int v6), .val (.ref b7), .val (.ref b10), .val (.ref b13), .val (.ref b16), .val (.int (1 : Int32)), .val (.ref b47_0)] [(.int v5), (.int ((1 : Int32) + v61)), (.int (f23_2 (upA (fun _ => (0 : Int32)) 0 (nar .byte (v6.toInt8.toInt32))) (upA (fun _ => (0 : Int32)) 0 (nar .byte (v5.toInt8.toInt32))) (upA (fun _ => (0 : Int32)) 0 (nar .byte (v4.toInt8.toInt32))) wC))]))
              refine Go.step (fun t k => XS.iload X62.here hx rfl (hb hby at_334) rfl k) ?_
              show Go p e below _ (T62.setTop (mkF m 336 #[.val (.int p1), .val (.int p2), .val (.int (3 : Int32)), .val (.int v4), .val (.int v5), .val (.int v6), .val (.ref b7), .val (.ref b10), .val (.ref b13), .val (.ref b16), .val (.int (1 : Int32)), .val (.ref b47_0)] [(.int v6), (.int v5), (.int ((1 : Int32) + v61)), (.int (f23_2 (upA (fun _ => (0 : Int32)) 0 (nar .byte (v6.toInt8.toInt32))) (upA (fun _ => (0 : Int32)) 0 (nar .byte (v5.toInt8.toInt32))) (upA (fun _ => (0 : Int32)) 0 (nar .byte (v4.toInt8.toInt32))) wC))]))
              obtain ⟨v64, hv64⟩ : ∃ z : Int32, z = (if v5 = v6 then (1 : Int32) else (0 : Int32)) := ⟨_, rfl⟩
              have J336 : Go p e below (AtF p l e room_1 s m #[(.int p1), (.int p2)] below meth c n0 22 89 T47.heap (mkF m 344 #[.val (.int p1), .val (.int p2), .val (.int (3 : Int32)), .val (.int v4), .val (.int v5), .val (.int v6), .val (.ref b7), .val (.ref b10), .val (.ref b13), .val (.ref b16), .val (.int (1 : Int32)), .val (.ref b47_0)] [(.int v64), (.int ((1 : Int32) + v61)), (.int (f23_2 (upA (fun _ => (0 : Int32)) 0 (nar .byte (v6.toInt8.toInt32))) (upA (fun _ => (0 : Int32)) 0 (nar .byte (v5.toInt8.toInt32))) (upA (fun _ => (0 : Int32)) 0 (nar .byte (v4.toInt8.toInt32))) wC))])) (T62.setTop (mkF m 336 #[.val (.int p1), .val (.int p2), .val (.int (3 : Int32)), .val (.int v4), .val (.int v5), .val (.int v6), .val (.ref b7), .val (.ref b10), .val (.ref b13), .val (.ref b16), .val (.int (1 : Int32)), .val (.ref b47_0)] [(.int v6), (.int v5), (.int ((1 : Int32) + v61)), (.int (f23_2 (upA (fun _ => (0 : Int32)) 0 (nar .byte (v6.toInt8.toInt32))) (upA (fun _ => (0 : Int32)) 0 (nar .byte (v5.toInt8.toInt32))) (upA (fun _ => (0 : Int32)) 0 (nar .byte (v4.toInt8.toInt32))) wC))])) := by
                by_cases hc63 : v5 = v6
                · refine Go.step (fun t k => XS.icmpNo X62.here hx rfl (hb hby at_336) rfl (teq hc63).2 k) ?_
                  show Go p e below _ (T62.setTop (mkF m 339 #[.val (.int p1), .val (.int p2), .val (.int (3 : Int32)), .val (.int v4), .val (.int v5), .val (.int v6), .val (.ref b7), .val (.ref b10), .val (.ref b13), .val (.ref b16), .val (.int (1 : Int32)), .val (.ref b47_0)] [(.int ((1 : Int32) + v61)), (.int (f23_2 (upA (fun _ => (0 : Int32)) 0 (nar .byte (v6.toInt8.toInt32))) (upA (fun _ => (0 : Int32)) 0 (nar .byte (v5.toInt8.toInt32))) (upA (fun _ => (0 : Int32)) 0 (nar .byte (v4.toInt8.toInt32))) wC))]))
                  refine Go.step (fun t k => XS.iconst X62.here hx rfl (hb hby at_339)  k) ?_
                  show Go p e below _ (T62.setTop (mkF m 340 #[.val (.int p1), .val (.int p2), .val (.int (3 : Int32)), .val (.int v4), .val (.int v5), .val (.int v6), .val (.ref b7), .val (.ref b10), .val (.ref b13), .val (.ref b16), .val (.int (1 : Int32)), .val (.ref b47_0)] [(.int (1 : Int32)), (.int ((1 : Int32) + v61)), (.int (f23_2 (upA (fun _ => (0 : Int32)) 0 (nar .byte (v6.toInt8.toInt32))) (upA (fun _ => (0 : Int32)) 0 (nar .byte (v5.toInt8.toInt32))) (upA (fun _ => (0 : Int32)) 0 (nar .byte (v4.toInt8.toInt32))) wC))]))
                  refine Go.step (fun t k => XS.goto X62.here hx rfl (pc0 := 340) (pc' := 344) rfl (hb hby at_340) (by decide) (by decide) k) ?_
                  show Go p e below _ (T62.setTop (mkF m 344 #[.val (.int p1), .val (.int p2), .val (.int (3 : Int32)), .val (.int v4), .val (.int v5), .val (.int v6), .val (.ref b7), .val (.ref b10), .val (.ref b13), .val (.ref b16), .val (.int (1 : Int32)), .val (.ref b47_0)] [(.int (1 : Int32)), (.int ((1 : Int32) + v61)), (.int (f23_2 (upA (fun _ => (0 : Int32)) 0 (nar .byte (v6.toInt8.toInt32))) (upA (fun _ => (0 : Int32)) 0 (nar .byte (v5.toInt8.toInt32))) (upA (fun _ => (0 : Int32)) 0 (nar .byte (v4.toInt8.toInt32))) wC))]))
                  exact Go.here ⟨_, _, by simp only [hv64, if_pos hc63], X62, N62, e62⟩
                · refine Go.step (fun t k => XS.icmpYes X62.here hx rfl (pc0 := 336) (pc' := 343) rfl (hb hby at_336) rfl (feq hc63).2 (by decide) (by decide) k) ?_
                  show Go p e below _ (T62.setTop (mkF m 343 #[.val (.int p1), .val (.int p2), .val (.int (3 : Int32)), .val (.int v4), .val (.int v5), .val (.int v6), .val (.ref b7), .val (.ref b10), .val (.ref b13), .val (.ref b16), .val (.int (1 : Int32)), .val (.ref b47_0)] [(.int ((1 : Int32) + v61)), (.int (f23_2 (upA (fun _ => (0 : Int32)) 0 (nar .byte (v6.toInt8.toInt32))) (upA (fun _ => (0 : Int32)) 0 (nar .byte (v5.toInt8.toInt32))) (upA (fun _ => (0 : Int32)) 0 (nar .byte (v4.toInt8.toInt32))) wC))]))
                  refine Go.step (fun t k => XS.iconst X62.here hx rfl (hb hby at_343)  k) ?_
                  show Go p e below _ (T62.setTop (mkF m 344 #[.val (.int p1), .val (.int p2), .val (.int (3 : Int32)), .val (.int v4), .val (.int v5), .val (.int v6), .val (.ref b7), .val (.ref b10), .val (.ref b13), .val (.ref b16), .val (.int (1 : Int32)), .val (.ref b47_0)] [(.int (0 : Int32)), (.int ((1 : Int32) + v61)), (.int (f23_2 (upA (fun _ => (0 : Int32)) 0 (nar .byte (v6.toInt8.toInt32))) (upA (fun _ => (0 : Int32)) 0 (nar .byte (v5.toInt8.toInt32))) (upA (fun _ => (0 : Int32)) 0 (nar .byte (v4.toInt8.toInt32))) wC))]))
                  exact Go.here ⟨_, _, by simp only [hv64, if_neg hc63], X62, N62, e62⟩
              obtain ⟨_, st65, T65, Lj65, rfl, X65, N65, e65⟩ := J336
              refine Go.trans st65 ?_
              show Go p e below _ (T65.setTop (mkF m 344 #[.val (.int p1), .val (.int p2), .val (.int (3 : Int32)), .val (.int v4), .val (.int v5), .val (.int v6), .val (.ref b7), .val (.ref b10), .val (.ref b13), .val (.ref b16), .val (.int (1 : Int32)), .val (.ref b47_0)] [(.int v64), (.int ((1 : Int32) + v61)), (.int (f23_2 (upA (fun _ => (0 : Int32)) 0 (nar .byte (v6.toInt8.toInt32))) (upA (fun _ => (0 : Int32)) 0 (nar .byte (v5.toInt8.toInt32))) (upA (fun _ => (0 : Int32)) 0 (nar .byte (v4.toInt8.toInt32))) wC))]))
              refine Go.step (fun t k => XS.iadd X65.here hx rfl (hb hby at_344) rfl k) ?_
              show Go p e below _ (T65.setTop (mkF m 345 #[.val (.int p1), .val (.int p2), .val (.int (3 : Int32)), .val (.int v4), .val (.int v5), .val (.int v6), .val (.ref b7), .val (.ref b10), .val (.ref b13), .val (.ref b16), .val (.int (1 : Int32)), .val (.ref b47_0)] [(.int (((1 : Int32) + v61) + v64)), (.int (f23_2 (upA (fun _ => (0 : Int32)) 0 (nar .byte (v6.toInt8.toInt32))) (upA (fun _ => (0 : Int32)) 0 (nar .byte (v5.toInt8.toInt32))) (upA (fun _ => (0 : Int32)) 0 (nar .byte (v4.toInt8.toInt32))) wC))]))
              by_cases hc66 : (f23_2 (upA (fun _ => (0 : Int32)) 0 (nar .byte (v6.toInt8.toInt32))) (upA (fun _ => (0 : Int32)) 0 (nar .byte (v5.toInt8.toInt32))) (upA (fun _ => (0 : Int32)) 0 (nar .byte (v4.toInt8.toInt32))) wC) = (((1 : Int32) + v61) + v64)
              · refine Go.step (fun t k => XS.icmpYes X65.here hx rfl (pc0 := 345) (pc' := 350) rfl (hb hby at_345) rfl (teq hc66).1 (by decide) (by decide) k) ?_
                show Go p e below _ (T65.setTop (mkF m 350 #[.val (.int p1), .val (.int p2), .val (.int (3 : Int32)), .val (.int v4), .val (.int v5), .val (.int v6), .val (.ref b7), .val (.ref b10), .val (.ref b13), .val (.ref b16), .val (.int (1 : Int32)), .val (.ref b47_0)] []))
                refine Go.step (fun t k => XS.iload X65.here hx rfl (hb hby at_350) rfl k) ?_
                show Go p e below _ (T65.setTop (mkF m 352 #[.val (.int p1), .val (.int p2), .val (.int (3 : Int32)), .val (.int v4), .val (.int v5), .val (.int v6), .val (.ref b7), .val (.ref b10), .val (.ref b13), .val (.ref b16), .val (.int (1 : Int32)), .val (.ref b47_0)] [(.int (1 : Int32))]))
                subst hv64
                subst hv61
                subst hv56
                subst hv6
                subst hv5
                subst hv4
                subst hv3
                exact retGN X65 hx Bd.notSynchronized Bd.returns (t := .boolean) (by simp) (z' := (1 : Int32)) rfl (hb hby at_352) ⟨by first | (simp only [f0, if_neg hc19, if_neg hc22, if_neg hc29, if_pos hc43, if_pos hc53, if_pos hc58, if_pos hc66]; done) | rfl | (simp [f0, if_neg hc19, if_neg hc22, if_neg hc29, if_pos hc43, if_pos hc53, if_pos hc58, if_pos hc66]; done), N65⟩ (by decide) (by decide)
              · refine Go.step (fun t k => XS.icmpNo X65.here hx rfl (hb hby at_345) rfl (feq hc66).1 k) ?_
                show Go p e below _ (T65.setTop (mkF m 348 #[.val (.int p1), .val (.int p2), .val (.int (3 : Int32)), .val (.int v4), .val (.int v5), .val (.int v6), .val (.ref b7), .val (.ref b10), .val (.ref b13), .val (.ref b16), .val (.int (1 : Int32)), .val (.ref b47_0)] []))
                refine Go.step (fun t k => XS.iconst X65.here hx rfl (hb hby at_348)  k) ?_
                show Go p e below _ (T65.setTop (mkF m 349 #[.val (.int p1), .val (.int p2), .val (.int (3 : Int32)), .val (.int v4), .val (.int v5), .val (.int v6), .val (.ref b7), .val (.ref b10), .val (.ref b13), .val (.ref b16), .val (.int (1 : Int32)), .val (.ref b47_0)] [(.int (0 : Int32))]))
                subst hv64
                subst hv61
                subst hv56
                subst hv6
                subst hv5
                subst hv4
                subst hv3
                exact retGN X65 hx Bd.notSynchronized Bd.returns (t := .boolean) (by simp) (z' := (0 : Int32)) rfl (hb hby at_349) ⟨by first | (simp only [f0, if_neg hc19, if_neg hc22, if_neg hc29, if_pos hc43, if_pos hc53, if_pos hc58, if_neg hc66]; done) | rfl | (simp [f0, if_neg hc19, if_neg hc22, if_neg hc29, if_pos hc43, if_pos hc53, if_pos hc58, if_neg hc66]; done), N65⟩ (by decide) (by decide)
            · refine Go.step (fun t k => XS.icmpNo X57.here hx rfl (hb hby at_304) rfl (feq hc58).1 k) ?_
              show Go p e below _ (T57.setTop (mkF m 307 #[.val (.int p1), .val (.int p2), .val (.int (3 : Int32)), .val (.int v4), .val (.int v5), .val (.int v6), .val (.ref b7), .val (.ref b10), .val (.ref b13), .val (.ref b16), .val (.int (1 : Int32)), .val (.ref b47_0)] []))
              refine Go.step (fun t k => XS.iconst X57.here hx rfl (hb hby at_307)  k) ?_
              show Go p e below _ (T57.setTop (mkF m 308 #[.val (.int p1), .val (.int p2), .val (.int (3 : Int32)), .val (.int v4), .val (.int v5), .val (.int v6), .val (.ref b7), .val (.ref b10), .val (.ref b13), .val (.ref b16), .val (.int (1 : Int32)), .val (.ref b47_0)] [(.int (0 : Int32))]))
              subst hv56
              subst hv6
              subst hv5
              subst hv4
              subst hv3
              exact retGN X57 hx Bd.notSynchronized Bd.returns (t := .boolean) (by simp) (z' := (0 : Int32)) rfl (hb hby at_308) ⟨by first | (simp only [f0, if_neg hc19, if_neg hc22, if_neg hc29, if_pos hc43, if_pos hc53, if_neg hc58]; done) | rfl | (simp [f0, if_neg hc19, if_neg hc22, if_neg hc29, if_pos hc43, if_pos hc53, if_neg hc58]; done), N57⟩ (by decide) (by decide)
          · refine Go.step (fun t k => XS.icmpNo X52.here hx rfl (hb hby at_276) rfl (feq hc53).1 k) ?_
            show Go p e below _ (T52.setTop (mkF m 279 #[.val (.int p1), .val (.int p2), .val (.int (3 : Int32)), .val (.int v4), .val (.int v5), .val (.int v6), .val (.ref b7), .val (.ref b10), .val (.ref b13), .val (.ref b16), .val (.int (1 : Int32)), .val (.ref b47_0)] []))
            refine Go.step (fun t k => XS.iconst X52.here hx rfl (hb hby at_279)  k) ?_
            show Go p e below _ (T52.setTop (mkF m 280 #[.val (.int p1), .val (.int p2), .val (.int (3 : Int32)), .val (.int v4), .val (.int v5), .val (.int v6), .val (.ref b7), .val (.ref b10), .val (.ref b13), .val (.ref b16), .val (.int (1 : Int32)), .val (.ref b47_0)] [(.int (0 : Int32))]))
            subst hv6
            subst hv5
            subst hv4
            subst hv3
            exact retGN X52 hx Bd.notSynchronized Bd.returns (t := .boolean) (by simp) (z' := (0 : Int32)) rfl (hb hby at_280) ⟨by first | (simp only [f0, if_neg hc19, if_neg hc22, if_neg hc29, if_pos hc43, if_neg hc53]; done) | rfl | (simp [f0, if_neg hc19, if_neg hc22, if_neg hc29, if_pos hc43, if_neg hc53]; done), N52⟩ (by decide) (by decide)
        · skip
          exfalso
          exact k4 _ (by rw [← hv3]; assumption) (by rw [← hv3]; assumption) (by rw [← hv3]; assumption) (by rw [← hv3]; assumption)

theorem own_eq {a b : Int32} (w : Int32) (ha : Ch a) (hb : Ch b) : f24 (upA (fun _ => (0 : Int32)) 0 (nar .byte (a.toInt8.toInt32))) (upA (fun _ => (0 : Int32)) 0 (nar .byte (b.toInt8.toInt32))) w = (if a = b then (1 : Int32) else (0 : Int32)) := by
  have e : f25 (upA (fun _ => (0 : Int32)) 0 (nar .byte (a.toInt8.toInt32))) (upA (fun _ => (0 : Int32)) 0 (nar .byte (b.toInt8.toInt32))) = (if nar .byte (a.toInt8.toInt32) = nar .byte (b.toInt8.toInt32) then (1 : Int32) else (0 : Int32)) := rfl
  simp only [f24, e, by8_inj ha hb]
  by_cases h1 : a = b <;> simp only [h1, if_true, if_false] <;> decide
theorem law_true (p q w : Int32) : f0 p q w = 1 := by
  have q0 := ch_a q
  have q1 := ch_a ((q.toUInt32 >>> ((1 : Int32) &&& 31).toUInt32).toInt32)
  have q2 := ch_a ((q.toUInt32 >>> ((2 : Int32) &&& 31).toUInt32).toInt32)
  simp only [f0]
  generalize (((97 : Int32) + (q &&& (1 : Int32))).toUInt32.toUInt16.toUInt32.toInt32) = a0 at *
  generalize (((97 : Int32) + (((q.toUInt32 >>> ((1 : Int32) &&& 31).toUInt32).toInt32) &&& (1 : Int32))).toUInt32.toUInt16.toUInt32.toInt32) = a1 at *
  generalize (((97 : Int32) + (((q.toUInt32 >>> ((2 : Int32) &&& 31).toUInt32).toInt32) &&& (1 : Int32))).toUInt32.toUInt16.toUInt32.toInt32) = a2 at *
  simp only [f23_0, f23_1, f23_2, own_eq w q0 q1, own_eq w q0 q2, own_eq w q1 q2]
  have z1 : (if (if a0 = a1 then (1 : Int32) else (0 : Int32)) = (0 : Int32) then (1 : Int32) else (2 : Int32)) = ((1 : Int32) + (if a0 = a1 then (1 : Int32) else (0 : Int32))) := by
    by_cases h : a0 = a1 <;> simp only [h, if_true, if_false] <;> decide
  have z2 : (if (if a0 = a2 then (1 : Int32) else (0 : Int32)) = (0 : Int32) then (if (if a1 = a2 then (1 : Int32) else (0 : Int32)) = (0 : Int32) then (1 : Int32) else (2 : Int32)) else ((if (if a1 = a2 then (1 : Int32) else (0 : Int32)) = (0 : Int32) then (1 : Int32) else (2 : Int32)) + (1 : Int32))) = (((1 : Int32) + (if a0 = a2 then (1 : Int32) else (0 : Int32))) + (if a1 = a2 then (1 : Int32) else (0 : Int32))) := by
    have s1 : (if a0 = a2 then (1 : Int32) else (0 : Int32)) = 0 ∨ (if a0 = a2 then (1 : Int32) else (0 : Int32)) = 1 := by split <;> simp
    have s2 : (if a1 = a2 then (1 : Int32) else (0 : Int32)) = 0 ∨ (if a1 = a2 then (1 : Int32) else (0 : Int32)) = 1 := by split <;> simp
    generalize (if a0 = a2 then (1 : Int32) else (0 : Int32)) = x at *
    generalize (if a1 = a2 then (1 : Int32) else (0 : Int32)) = y at *
    rcases s1 with rfl | rfl <;> rcases s2 with rfl | rfl <;> decide
  simp only [z1, z2, if_true, ite_self]

set_option maxRecDepth 65536 in
set_option maxHeartbeats 40000000 in
theorem comes_1 {Post : Tables → Env → Array Value → State → Outcome → State → Prop} (hpost : ∀ tb e args s v u, (limb_1_1.after args s (.returned v) u = true ∧ limb_1_2.after args s (.returned v) u = true ∧ True) → FrameEnd s (.returned v) u (Jvm.fieldLocs frame_1_writes args s ++ Jvm.arrayLocs frame_1_arrays args s ++ Jvm.staticLocs frame_1_statics s) 56 256 → Post tb e args s (.returned v) u) :
    ArmFor flags0 classFile x code maxLocals ret World_1 tables_1 room_1 Calls_1 rest_1 Pre_1 Post := by
  intro l hfl _ _ p e ha hc hk s m args below hf hA hF happ hP
  obtain ⟨hcalls, hrest, hpre⟩ := hP
  obtain ⟨-, -, -, hnamed, -, -, -, hat⟩ := (Spec.applies_iff hf).mp happ
  obtain ⟨hg, hn⟩ := and_e (Cond.before_iff.mp (show (Jvm.Cond.and given_1 narrow_1).before args s = true from hpre))
  obtain ⟨g0, hg⟩ := and_e hg
  obtain ⟨ga0, hg⟩ := and_e hg
  have ga1 := hg
  obtain ⟨w0, w1, rfl⟩ : ∃ w0 w1 : Value, args = #[w0, w1] := by
    have hs : args.size = 2 := by simpa [Cond.value, given_1] using g0
    obtain ⟨L⟩ := args
    match L, hs with
    | [w0, w1], _ => exact ⟨w0, w1, rfl⟩
  have hw := fun d (hd : d ∈ tables_1) => atoms_spec (ws := Jvm.Cond.code x code maxLocals ret :: tables_1) hat d (List.mem_cons_of_mem _ hd)
  have hfit : Fit s := fun {y c} hc i hi => by
    obtain ⟨ha, rfl⟩ := Array.getElem?_eq_some_iff.mp hc
    have q := List.all_eq_true.mp ((Array.all_eq_true_iff_forall_mem.mp hF) _ (Array.getElem_mem ha)) i (List.mem_range.mpr hi)
    simpa [Array.getElem?_eq_getElem hi] using q
  obtain ⟨i0, ei0⟩ := is_v ga0
  obtain rfl : w0 = (.int i0) := Option.some.inj ei0
  obtain ⟨i1, ei1⟩ := is_v ga1
  obtain rfl : w1 = (.int i1) := Option.some.inj ei1
  obtain ⟨hsets, hown0⟩ := atoms_of _ (rest_1_c_eq ▸ (show rest_1_c.before _ s = true from hrest))
  obtain ⟨wC, eC⟩ := is_v (Cond.before_iff.mp (hsets _ (List.mem_of_getElem? (i := 1) rfl)))
  have SC : Sta s s.heap "java/lang/String" "COMPACT_STRINGS" "Z" (.int wC) := Sta.start eC (Or.inl (hsets _ (List.mem_of_getElem? (i := 0) rfl)))
  have hC : ¬ (wC = (0 : Int32)) := gotF (Cond.eq_ints eC (Term.int_eval (0))) (not_v (Cond.before_iff.mp (hsets _ (List.mem_of_getElem? (i := 2) rfl))))
  obtain ⟨oD, eD⟩ := arr_v (Cond.before_iff.mp (hsets _ (List.mem_of_getElem? (i := 15) rfl)))
  have SD : Sta s s.heap "java/util/ArrayList" "DEFAULTCAPACITY_EMPTY_ELEMENTDATA" "[Ljava/lang/Object;" (.ref oD) := Sta.start eD (Or.inr ⟨(hw _ (List.mem_of_getElem? (i := 35) rfl)), (hsets _ (List.mem_of_getElem? (i := 11) rfl))⟩)
  have AD : Ary s s.heap oD (.object "java/lang/Object") 0 (fun _ => Value.null) := by
    obtain ⟨c, hc⟩ := Arr.start eD (Cond.before_iff.mp (hsets _ (List.mem_of_getElem? (i := 15) rfl)))
    have hl := Cond.eq_int (hsets _ (List.mem_of_getElem? (i := 17) rfl)) rfl
    obtain ⟨a1, SA, hev, hat1, hv⟩ := Term.length_spec hl
    have h31 := Jvm.Free.SBG.length_lt hev hat1 hl
    obtain rfl : a1 = oD := Value.ref.inj (Option.some.inj (hev.symm.trans eD))
    obtain rfl : SA = c := Option.some.inj ((State.arrayAt?_spec hat1).1.symm.trans hc.1)
    have hz : SA.slots.size = 0 := by
      have h2 : (0 : Int32) = SA.slots.size.toInt32 := Value.int.inj hv
      have h3 := congrArg Int32.toInt h2
      rw [nat32 h31, show (0 : Int32).toInt = 0 by decide] at h3; omega
    exact ⟨SA, hc, hz, by decide, fun i hi => absurd hi (Nat.not_lt_zero _)⟩
  obtain ⟨n, o, h1, h2, h3, v, L, rfl, hQ, hq⟩ := rm0 l s _ hw tables_1 i0 i1 wC oD s.heap s.heap.size (Nat.le_refl _) (Old.start s) hC SC SD AD p e ha hc hk s m _ below hf ((Spec.applies_iff_loose hf).mp happ).1 ⟨rfl, State.Warmed39.refl s, rfl⟩ trivial
  obtain ⟨hv, N⟩ := hQ
  rw [law_true i0 i1] at hv
  subst hv
  refine ⟨n, _, h1, h2, h3, hpost _ _ _ _ _ _ ⟨Cond.after_iff.mpr rfl, Cond.after_iff.mpr (eq_i res_at (Term.int_eval (1)) rfl), trivial⟩ ⟨hq.1, hq.2.1, (hq.2.2.sift fun y hy => Or.inr (N y hy)).mono (by decide) (by decide)⟩⟩
theorem main_1_1 : Claimed_1_1 := comes_1 fun _ _ _ _ _ _ h hF => ⟨h.1, hF⟩
theorem main_1_2 : Claimed_1_2 := comes_1 fun _ _ _ _ _ _ h hF => ⟨h.2.1, hF⟩
end Jvm.Pilot.@@N@@
namespace Jvm.Pilot.@@N@@
open Jvm Jvm.ClassFile Sem Op Lib Jvm.Free Jvm.Stand Jvm.Pilot.@@N@@.Jvm.D
/-! MADE BY PROGRAM (witnessworld.py) out of the Statement's table words and the real class files: 28 classes; the members and pool entries that the words name. The judged class is class 1, her method 1. -/
namespace start1
open Jvm.ClassFile
def u (s : String) : CpInfo := .utf8 (stringToUtf16 s)
/-- a pool by its gaps: so many unusable entries, then the entry; so many at the end -/
def gap : Nat → List CpInfo → List CpInfo
  | 0, r => r
  | n + 1, r => .unusable :: gap n r
def poolList (es : List (Nat × CpInfo)) (last : Nat) : List CpInfo := es.foldr (fun e r => gap e.1 (e.2 :: r)) (gap last [])
def pool (es : List (Nat × CpInfo)) (last : Nat) : Array CpInfo := ⟨poolList es last⟩
def fileOf (pool : Array CpInfo) (this : Nat) (attrs : Array Attribute := #[]) (ms : Array MethodInfo := #[]) (fl : Nat := 33) (sup : Nat := 0) (ifs : Array Nat := #[]) (fds : Array FieldInfo := #[]) : ClassFile where
  minorVersion := 0
  majorVersion := 65
  constantPool := pool
  accessFlags := fl
  thisClass := this
  superClass := sup
  interfaces := ifs
  fields := fds
  methods := ms
  attributes := attrs
def plain (name : String) (sup : Option ClassId) : Class where
  name := name
  kind := .ordinary
  loader := none
  accessFlags := 33
  super := sup
  interfaces := #[]
  cf := none
  fields := #[]
  methods := #[]
  instanceTypes := #[]
  staticTypes := #[]
  resolved := #[]
  callSites := []
  init := .initialized
  statics := none
  mirror := none

def pool0 : Array CpInfo := pool [(5, u "<init>"), (0, u "()V"), (1, .class_ 10), (1, u "java/lang/Object")] 113

def k0c0 : Code := { maxStack := 0, maxLocals := 1, code := object_method_1_code, exceptionTable := #[], attributes := #[] }
def k0m0 : Method := { name := "<init>", desc := "()V", sig := { parameters := [], returnType := none }, accessFlags := 1, code := some k0c0 }
/-- java/lang/Object -/
def k0 : Class := { plain "java/lang/Object" none with
  accessFlags := 33
  interfaces := #[]
  cf := some (fileOf pool0 8 #[] #[{ accessFlags := 1, nameIndex := 5, descriptorIndex := 6, attributes := #[] }] 33 0 #[] #[])
  fields := #[]
  methods := #[k0m0]
  instanceTypes := #[]
  staticTypes := #[]
  resolved := Array.replicate 124 none
  statics := none }

def pool1 : Array CpInfo := pool [(2, .class_ 4), (1, u "java/lang/Object"), (0, u "<init>"), (0, u "()V"), (0, .class_ 8), (0, u "com/example/dataflow_to_dispatch/dataflowtodispatch/model/document/XmlElement"), (0, .methodref 10 11), (0, .class_ 12), (0, .nameAndType 13 14), (0, u "java/lang/String"), (0, u "valueOf"), (0, u "(C)Ljava/lang/String;"), (0, .methodref 7 16), (0, .nameAndType 5 17), (0, u "(Ljava/lang/String;)V"), (0, .methodref 7 19), (0, .nameAndType 20 21), (0, u "append"), (0, u "(Lcom/example/dataflow_to_dispatch/dataflowtodispatch/model/document/XmlElement;)Lcom/example/dataflow_to_dispatch/dataflowtodispatch/model/document/XmlElement;"), (0, .methodref 7 23), (0, .nameAndType 24 25), (0, u "children"), (0, u "()Ljava/util/List;"), (0, .interfaceMethodref 27 28), (0, .class_ 29), (0, .nameAndType 30 31), (0, u "java/util/List"), (0, u "size"), (0, u "()I"), (0, .interfaceMethodref 27 33), (0, .nameAndType 34 35), (0, u "get"), (0, u "(I)Ljava/lang/Object;"), (0, .methodref 7 37), (0, .nameAndType 38 31), (0, u "position"), (0, .class_ 40), (0, u "com/example/dataflow_to_dispatch/dataflowtodispatch/model/document/XmlElementAppendPinLaw"), (2, u "law"), (0, u "(II)Z")] 3

def k1m0 : Method := { name := "<init>", desc := "()V", sig := { parameters := [], returnType := none }, accessFlags := 1, code := none }
def k1c1 : Code := { maxStack := 4, maxLocals := 12, code := code, exceptionTable := #[], attributes := #[] }
def k1m1 : Method := { name := "law", desc := "(II)Z", sig := { parameters := [.int, .int], returnType := some .boolean }, accessFlags := 9, code := some k1c1 }
/-- com/example/dataflow_to_dispatch/dataflowtodispatch/model/document/XmlElementAppendPinLaw -/
def k1 : Class := { plain "com/example/dataflow_to_dispatch/dataflowtodispatch/model/document/XmlElementAppendPinLaw" (some 0) with
  accessFlags := 49
  interfaces := #[]
  cf := some (fileOf pool1 39 #[] #[{ accessFlags := 1, nameIndex := 5, descriptorIndex := 6, attributes := #[] }, { accessFlags := 9, nameIndex := 43, descriptorIndex := 44, attributes := #[] }] 49 2 #[] #[])
  fields := #[]
  methods := #[k1m0, k1m1]
  instanceTypes := #[]
  staticTypes := #[]
  resolved := Array.replicate 48 none
  statics := none }

def pool2 : Array CpInfo := pool [(1, .methodref 2 3), (0, .class_ 4), (0, .nameAndType 5 6), (0, u "java/lang/Object"), (0, u "<init>"), (0, u "()V"), (0, .class_ 8), (0, u "java/util/ArrayList"), (0, .methodref 7 3), (0, .fieldref 11 12), (0, .class_ 13), (0, .nameAndType 14 15), (0, u "com/example/dataflow_to_dispatch/dataflowtodispatch/model/document/XmlElement"), (0, u "attributes"), (0, u "Ljava/util/List;"), (0, .fieldref 11 17), (0, .nameAndType 18 15), (0, u "texts"), (0, .fieldref 11 20), (0, .nameAndType 21 22), (0, u "name"), (0, u "Ljava/lang/String;"), (0, .fieldref 11 24), (0, .nameAndType 25 26), (0, u "parent"), (0, u "Lcom/example/dataflow_to_dispatch/dataflowtodispatch/model/document/XmlElement;"), (12, .fieldref 11 40), (0, .nameAndType 41 26), (0, u "firstChild"), (0, .interfaceMethodref 43 44), (0, .class_ 45), (0, .nameAndType 46 47), (0, u "java/util/List"), (0, u "add"), (0, u "(Ljava/lang/Object;)Z"), (0, .fieldref 11 49), (0, .nameAndType 50 26), (0, u "next"), (0, .fieldref 11 52), (0, .nameAndType 53 26), (0, u "previous"), (0, .methodref 55 56), (0, .class_ 57), (0, .nameAndType 58 47), (0, u "java/lang/String"), (0, u "equals"), (16, .class_ 76), (0, u "com/example/dataflow_to_dispatch/dataflowtodispatch/model/document/XmlElement$Piece"), (5, u "append"), (29, u "()I"), (6, .fieldref 11 120), (0, .nameAndType 121 26), (0, u "lastChild"), (0, .methodref 11 123), (0, .nameAndType 124 125), (0, u "linkAfter"), (0, u "(Lcom/example/dataflow_to_dispatch/dataflowtodispatch/model/document/XmlElement;Lcom/example/dataflow_to_dispatch/dataflowtodispatch/model/document/XmlElement;)V"), (2, u "()Ljava/util/List;"), (6, u "(Ljava/lang/String;)V"), (6, u "(Lcom/example/dataflow_to_dispatch/dataflowtodispatch/model/document/XmlElement;)Lcom/example/dataflow_to_dispatch/dataflowtodispatch/model/document/XmlElement;"), (6, u "children"), (2, u "position")] 15

def k2c0 : Code := { maxStack := 3, maxLocals := 2, code := prog_109_method_1_code, exceptionTable := #[], attributes := #[] }
def k2m0 : Method := { name := "<init>", desc := "(Ljava/lang/String;)V", sig := { parameters := [(.object "java/lang/String")], returnType := none }, accessFlags := 0, code := some k2c0 }
def k2c1 : Code := { maxStack := 2, maxLocals := 3, code := prog_109_method_6_code, exceptionTable := #[], attributes := #[] }
def k2m1 : Method := { name := "children", desc := "()Ljava/util/List;", sig := { parameters := [], returnType := some (.object "java/util/List") }, accessFlags := 0, code := some k2c1 }
def k2c2 : Code := { maxStack := 2, maxLocals := 3, code := prog_109_method_7_code, exceptionTable := #[], attributes := #[] }
def k2m2 : Method := { name := "position", desc := "()I", sig := { parameters := [], returnType := some .int }, accessFlags := 0, code := some k2c2 }
def k2c3 : Code := { maxStack := 3, maxLocals := 2, code := prog_109_method_14_code, exceptionTable := #[], attributes := #[] }
def k2m3 : Method := { name := "append", desc := "(Lcom/example/dataflow_to_dispatch/dataflowtodispatch/model/document/XmlElement;)Lcom/example/dataflow_to_dispatch/dataflowtodispatch/model/document/XmlElement;", sig := { parameters := [(.object "com/example/dataflow_to_dispatch/dataflowtodispatch/model/document/XmlElement")], returnType := some (.object "com/example/dataflow_to_dispatch/dataflowtodispatch/model/document/XmlElement") }, accessFlags := 0, code := some k2c3 }
def k2c4 : Code := { maxStack := 2, maxLocals := 3, code := prog_109_method_15_code, exceptionTable := #[], attributes := #[] }
def k2m4 : Method := { name := "linkAfter", desc := "(Lcom/example/dataflow_to_dispatch/dataflowtodispatch/model/document/XmlElement;Lcom/example/dataflow_to_dispatch/dataflowtodispatch/model/document/XmlElement;)V", sig := { parameters := [(.object "com/example/dataflow_to_dispatch/dataflowtodispatch/model/document/XmlElement"), (.object "com/example/dataflow_to_dispatch/dataflowtodispatch/model/document/XmlElement")], returnType := none }, accessFlags := 2, code := some k2c4 }
/-- com/example/dataflow_to_dispatch/dataflowtodispatch/model/document/XmlElement -/
def k2 : Class := { plain "com/example/dataflow_to_dispatch/dataflowtodispatch/model/document/XmlElement" (some 0) with
  accessFlags := 48
  interfaces := #[]
  cf := some (fileOf pool2 11 #[.nestMembers #[75]] #[{ accessFlags := 0, nameIndex := 5, descriptorIndex := 135, attributes := #[] }, { accessFlags := 0, nameIndex := 149, descriptorIndex := 128, attributes := #[] }, { accessFlags := 0, nameIndex := 152, descriptorIndex := 112, attributes := #[] }, { accessFlags := 0, nameIndex := 82, descriptorIndex := 142, attributes := #[] }, { accessFlags := 2, nameIndex := 124, descriptorIndex := 125, attributes := #[] }] 48 2 #[] #[{ accessFlags := 18, nameIndex := 21, descriptorIndex := 22, attributes := #[] }, { accessFlags := 18, nameIndex := 14, descriptorIndex := 15, attributes := #[] }, { accessFlags := 18, nameIndex := 18, descriptorIndex := 15, attributes := #[] }, { accessFlags := 2, nameIndex := 25, descriptorIndex := 26, attributes := #[] }, { accessFlags := 2, nameIndex := 41, descriptorIndex := 26, attributes := #[] }, { accessFlags := 2, nameIndex := 121, descriptorIndex := 26, attributes := #[] }, { accessFlags := 2, nameIndex := 53, descriptorIndex := 26, attributes := #[] }, { accessFlags := 2, nameIndex := 50, descriptorIndex := 26, attributes := #[] }])
  fields := #[{ name := "name", type := (.object "java/lang/String"), accessFlags := 18, slot := 0, constantValue := 0 }, { name := "attributes", type := (.object "java/util/List"), accessFlags := 18, slot := 1, constantValue := 0 }, { name := "texts", type := (.object "java/util/List"), accessFlags := 18, slot := 2, constantValue := 0 }, { name := "parent", type := (.object "com/example/dataflow_to_dispatch/dataflowtodispatch/model/document/XmlElement"), accessFlags := 2, slot := 3, constantValue := 0 }, { name := "firstChild", type := (.object "com/example/dataflow_to_dispatch/dataflowtodispatch/model/document/XmlElement"), accessFlags := 2, slot := 4, constantValue := 0 }, { name := "lastChild", type := (.object "com/example/dataflow_to_dispatch/dataflowtodispatch/model/document/XmlElement"), accessFlags := 2, slot := 5, constantValue := 0 }, { name := "previous", type := (.object "com/example/dataflow_to_dispatch/dataflowtodispatch/model/document/XmlElement"), accessFlags := 2, slot := 6, constantValue := 0 }, { name := "next", type := (.object "com/example/dataflow_to_dispatch/dataflowtodispatch/model/document/XmlElement"), accessFlags := 2, slot := 7, constantValue := 0 }]
  methods := #[k2m0, k2m1, k2m2, k2m3, k2m4]
  instanceTypes := #[(.object "java/lang/String"), (.object "java/util/List"), (.object "java/util/List"), (.object "com/example/dataflow_to_dispatch/dataflowtodispatch/model/document/XmlElement"), (.object "com/example/dataflow_to_dispatch/dataflowtodispatch/model/document/XmlElement"), (.object "com/example/dataflow_to_dispatch/dataflowtodispatch/model/document/XmlElement"), (.object "com/example/dataflow_to_dispatch/dataflowtodispatch/model/document/XmlElement"), (.object "com/example/dataflow_to_dispatch/dataflowtodispatch/model/document/XmlElement")]
  staticTypes := #[]
  resolved := Array.replicate 168 none
  statics := none }

def pool3 : Array CpInfo := pool [(1, .class_ 2), (0, u "java/io/Serializable"), (0, .class_ 4), (0, u "java/lang/Object")] 2

/-- java/io/Serializable -/
def k3 : Class := { plain "java/io/Serializable" (some 0) with
  accessFlags := 1537
  interfaces := #[]
  cf := some (fileOf pool3 1 #[] #[] 1537 3 #[] #[])
  fields := #[]
  methods := #[]
  instanceTypes := #[]
  staticTypes := #[]
  resolved := Array.replicate 7 none
  statics := none }

def pool4 : Array CpInfo := pool [(1, .class_ 2), (0, u "java/lang/Comparable"), (0, .class_ 4), (0, u "java/lang/Object")] 7

/-- java/lang/Comparable -/
def k4 : Class := { plain "java/lang/Comparable" (some 0) with
  accessFlags := 1537
  interfaces := #[]
  cf := some (fileOf pool4 1 #[] #[] 1537 3 #[] #[])
  fields := #[]
  methods := #[]
  instanceTypes := #[]
  staticTypes := #[]
  resolved := Array.replicate 12 none
  statics := none }

def pool5 : Array CpInfo := pool [(2, .class_ 4), (1, u "java/lang/CharSequence"), (42, .class_ 48), (0, u "java/lang/CharSequence$1CodePointIterator"), (10, .class_ 60), (0, u "java/lang/CharSequence$1CharIterator"), (5, .class_ 67), (0, u "java/lang/Object")] 63

/-- java/lang/CharSequence -/
def k5 : Class := { plain "java/lang/CharSequence" (some 0) with
  accessFlags := 1537
  interfaces := #[]
  cf := some (fileOf pool5 2 #[.nestMembers #[47, 59]] #[] 1537 66 #[] #[])
  fields := #[]
  methods := #[]
  instanceTypes := #[]
  staticTypes := #[]
  resolved := Array.replicate 131 none
  statics := none }

def pool6 : Array CpInfo := pool [(1, .class_ 2), (0, u "java/lang/constant/Constable"), (0, .class_ 4), (0, u "java/lang/Object")] 6

/-- java/lang/constant/Constable -/
def k6 : Class := { plain "java/lang/constant/Constable" (some 0) with
  accessFlags := 1537
  interfaces := #[]
  cf := some (fileOf pool6 1 #[] #[] 1537 3 #[] #[])
  fields := #[]
  methods := #[]
  instanceTypes := #[]
  staticTypes := #[]
  resolved := Array.replicate 11 none
  statics := none }

def pool7 : Array CpInfo := pool [(1, .class_ 2), (0, u "java/lang/constant/ConstantDesc"), (0, .class_ 4), (0, u "java/lang/Object")] 32

/-- java/lang/constant/ConstantDesc -/
def k7 : Class := { plain "java/lang/constant/ConstantDesc" (some 0) with
  accessFlags := 1537
  interfaces := #[]
  cf := some (fileOf pool7 1 #[] #[] 1537 3 #[] #[])
  fields := #[]
  methods := #[]
  instanceTypes := #[]
  staticTypes := #[]
  resolved := Array.replicate 37 none
  statics := none }

def pool8 : Array CpInfo := pool [(1, .methodref 2 3), (0, .class_ 4), (0, .nameAndType 5 6), (0, u "java/lang/Object"), (0, u "<init>"), (0, u "()V"), (2, .fieldref 10 11), (0, .class_ 12), (0, .nameAndType 13 14), (0, u "java/lang/String"), (0, u "value"), (0, u "[B"), (0, .fieldref 10 16), (0, .nameAndType 17 18), (0, u "coder"), (0, u "B"), (2, u "hash"), (0, u "I"), (2, u "hashIsZero"), (0, u "Z"), (11, .fieldref 10 39), (0, .nameAndType 40 26), (0, u "COMPACT_STRINGS"), (12, u "toBytes"), (53, .class_ 109), (1, u "java/lang/StringLatin1"), (99, .methodref 10 210), (0, .nameAndType 5 211), (0, u "([BB)V"), (157, u "(C)Z"), (171, .methodref 107 542), (0, .nameAndType 543 544), (0, u "equals"), (0, u "([B[B)Z"), (28, u "(Ljava/lang/Object;)Z"), (1, .class_ 576), (0, u "java/lang/CharSequence"), (22, u "CASE_INSENSITIVE_ORDER"), (0, u "Ljava/util/Comparator;"), (181, u "valueOf"), (0, u "(C)Ljava/lang/String;"), (231, .methodref 107 1016), (0, .nameAndType 1017 369), (0, u "canEncode"), (0, .methodref 107 1019), (0, .nameAndType 53 1020), (0, u "(C)[B"), (80, u "serialPersistentFields"), (0, u "[Ljava/io/ObjectStreamField;"), (0, .class_ 1104), (0, u "java/lang/String$CaseInsensitiveComparator"), (1, .class_ 1107), (0, u "java/io/Serializable"), (0, .class_ 1109), (0, u "java/lang/Comparable"), (0, .class_ 1111), (0, u "java/lang/constant/Constable"), (0, .class_ 1113), (0, u "java/lang/constant/ConstantDesc"), (2, u "serialVersionUID"), (0, u "J"), (3, u "REPL"), (0, u "C"), (2, u "LATIN1"), (1, u "UTF16")] 323

def k8m0 : Method := { name := "<init>", desc := "()V", sig := { parameters := [], returnType := none }, accessFlags := 1, code := none }
def k8c1 : Code := { maxStack := 2, maxLocals := 3, code := jdk_42_method_66_code, exceptionTable := #[], attributes := #[] }
def k8m1 : Method := { name := "equals", desc := "(Ljava/lang/Object;)Z", sig := { parameters := [(.object "java/lang/Object")], returnType := some .boolean }, accessFlags := 1, code := some k8c1 }
def k8c2 : Code := { maxStack := 4, maxLocals := 1, code := jdk_42_method_139_code, exceptionTable := #[], attributes := #[] }
def k8m2 : Method := { name := "valueOf", desc := "(C)Ljava/lang/String;", sig := { parameters := [.char], returnType := some (.object "java/lang/String") }, accessFlags := 9, code := some k8c2 }
def k8c3 : Code := { maxStack := 2, maxLocals := 3, code := jdk_42_method_151_code, exceptionTable := #[], attributes := #[] }
def k8m3 : Method := { name := "<init>", desc := "([BB)V", sig := { parameters := [(.array .byte), .byte], returnType := none }, accessFlags := 0, code := some k8c3 }
/-- java/lang/String -/
def k8 : Class := { plain "java/lang/String" (some 0) with
  accessFlags := 49
  interfaces := #[3, 4, 5, 6, 7]
  cf := some (fileOf pool8 10 #[.nestMembers #[1103]] #[{ accessFlags := 1, nameIndex := 5, descriptorIndex := 6, attributes := #[] }, { accessFlags := 1, nameIndex := 543, descriptorIndex := 573, attributes := #[] }, { accessFlags := 9, nameIndex := 782, descriptorIndex := 783, attributes := #[] }, { accessFlags := 0, nameIndex := 5, descriptorIndex := 211, attributes := #[] }] 49 2 #[1106, 1108, 575, 1110, 1112] #[{ accessFlags := 18, nameIndex := 13, descriptorIndex := 14, attributes := #[] }, { accessFlags := 18, nameIndex := 17, descriptorIndex := 18, attributes := #[] }, { accessFlags := 2, nameIndex := 21, descriptorIndex := 22, attributes := #[] }, { accessFlags := 2, nameIndex := 25, descriptorIndex := 26, attributes := #[] }, { accessFlags := 26, nameIndex := 1116, descriptorIndex := 1117, attributes := #[] }, { accessFlags := 24, nameIndex := 40, descriptorIndex := 26, attributes := #[] }, { accessFlags := 26, nameIndex := 1101, descriptorIndex := 1102, attributes := #[] }, { accessFlags := 26, nameIndex := 1121, descriptorIndex := 1122, attributes := #[] }, { accessFlags := 25, nameIndex := 599, descriptorIndex := 600, attributes := #[] }, { accessFlags := 24, nameIndex := 1125, descriptorIndex := 18, attributes := #[] }, { accessFlags := 24, nameIndex := 1127, descriptorIndex := 18, attributes := #[] }])
  fields := #[{ name := "value", type := (.array .byte), accessFlags := 18, slot := 0, constantValue := 0 }, { name := "coder", type := .byte, accessFlags := 18, slot := 1, constantValue := 0 }, { name := "hash", type := .int, accessFlags := 2, slot := 2, constantValue := 0 }, { name := "hashIsZero", type := .boolean, accessFlags := 2, slot := 3, constantValue := 0 }, { name := "serialVersionUID", type := .long, accessFlags := 26, slot := 0, constantValue := 0 }, { name := "COMPACT_STRINGS", type := .boolean, accessFlags := 24, slot := 1, constantValue := 0 }, { name := "serialPersistentFields", type := (.array (.object "java/io/ObjectStreamField")), accessFlags := 26, slot := 2, constantValue := 0 }, { name := "REPL", type := .char, accessFlags := 26, slot := 3, constantValue := 0 }, { name := "CASE_INSENSITIVE_ORDER", type := (.object "java/util/Comparator"), accessFlags := 25, slot := 4, constantValue := 0 }, { name := "LATIN1", type := .byte, accessFlags := 24, slot := 5, constantValue := 0 }, { name := "UTF16", type := .byte, accessFlags := 24, slot := 6, constantValue := 0 }]
  methods := #[k8m0, k8m1, k8m2, k8m3]
  instanceTypes := #[(.array .byte), .byte, .int, .boolean]
  staticTypes := #[.long, .boolean, (.array (.object "java/io/ObjectStreamField")), .char, (.object "java/util/Comparator"), .byte, .byte]
  resolved := Array.replicate 1451 none
  statics := some 0 }

def pool9 : Array CpInfo := pool [(4, .class_ 6), (1, u "java/lang/Object"), (0, u "<init>"), (0, u "()V"), (5, .class_ 16), (1, u "java/lang/StringLatin1"), (73, u "canEncode"), (14, u "(C)Z"), (15, u "$assertionsDisabled"), (0, u "Z"), (98, .class_ 223), (1, u "java/lang/StringLatin1$LinesSpliterator"), (57, u "equals"), (0, u "([B[B)Z"), (97, u "toBytes"), (1, u "(C)[B"), (7, .class_ 391), (0, u "java/lang/StringLatin1$CharsSpliterator")] 3

def k9m0 : Method := { name := "<init>", desc := "()V", sig := { parameters := [], returnType := none }, accessFlags := 0, code := none }
def k9c1 : Code := { maxStack := 2, maxLocals := 1, code := jdk_43_method_3_code, exceptionTable := #[], attributes := #[] }
def k9m1 : Method := { name := "canEncode", desc := "(C)Z", sig := { parameters := [.char], returnType := some .boolean }, accessFlags := 9, code := some k9c1 }
def k9c2 : Code := { maxStack := 3, maxLocals := 3, code := jdk_43_method_13_code, exceptionTable := #[], attributes := #[] }
def k9m2 : Method := { name := "equals", desc := "([B[B)Z", sig := { parameters := [(.array .byte), (.array .byte)], returnType := some .boolean }, accessFlags := 9, code := some k9c2 }
def k9c3 : Code := { maxStack := 4, maxLocals := 1, code := jdk_43_method_46_code, exceptionTable := #[], attributes := #[] }
def k9m3 : Method := { name := "toBytes", desc := "(C)[B", sig := { parameters := [.char], returnType := some (.array .byte) }, accessFlags := 9, code := some k9c3 }
/-- java/lang/StringLatin1 -/
def k9 : Class := { plain "java/lang/StringLatin1" (some 0) with
  accessFlags := 48
  interfaces := #[]
  cf := some (fileOf pool9 14 #[.nestMembers #[390, 221]] #[{ accessFlags := 0, nameIndex := 7, descriptorIndex := 8, attributes := #[] }, { accessFlags := 9, nameIndex := 90, descriptorIndex := 105, attributes := #[] }, { accessFlags := 9, nameIndex := 281, descriptorIndex := 282, attributes := #[] }, { accessFlags := 9, nameIndex := 380, descriptorIndex := 382, attributes := #[] }] 48 4 #[] #[{ accessFlags := 4120, nameIndex := 121, descriptorIndex := 122, attributes := #[] }])
  fields := #[{ name := "$assertionsDisabled", type := .boolean, accessFlags := 4120, slot := 0, constantValue := 0 }]
  methods := #[k9m0, k9m1, k9m2, k9m3]
  instanceTypes := #[]
  staticTypes := #[.boolean]
  resolved := Array.replicate 395 none
  statics := none }

def pool10 : Array CpInfo := pool [(8, .class_ 10), (1, u "java/lang/Iterable"), (24, .class_ 36), (0, u "java/lang/Object")] 25

/-- java/lang/Iterable -/
def k10 : Class := { plain "java/lang/Iterable" (some 0) with
  accessFlags := 1537
  interfaces := #[]
  cf := some (fileOf pool10 8 #[] #[] 1537 35 #[] #[])
  fields := #[]
  methods := #[]
  instanceTypes := #[]
  staticTypes := #[]
  resolved := Array.replicate 62 none
  statics := none }

def pool11 : Array CpInfo := pool [(10, .class_ 12), (1, u "java/util/Collection"), (47, .class_ 61), (0, u "java/lang/Object"), (0, .class_ 63), (0, u "java/lang/Iterable")] 51

/-- java/util/Collection -/
def k11 : Class := { plain "java/util/Collection" (some 0) with
  accessFlags := 1537
  interfaces := #[10]
  cf := some (fileOf pool11 10 #[] #[] 1537 60 #[62] #[])
  fields := #[]
  methods := #[]
  instanceTypes := #[]
  staticTypes := #[]
  resolved := Array.replicate 115 none
  statics := none }

def pool12 : Array CpInfo := pool [(1, .methodref 2 3), (0, .class_ 4), (0, .nameAndType 5 6), (0, u "java/lang/Object"), (0, u "<init>"), (0, u "()V"), (1, .class_ 10), (1, u "java/util/AbstractCollection"), (66, .class_ 78), (0, u "java/util/Collection")] 81

def k12c0 : Code := { maxStack := 1, maxLocals := 1, code := jdk_22_method_1_code, exceptionTable := #[], attributes := #[] }
def k12m0 : Method := { name := "<init>", desc := "()V", sig := { parameters := [], returnType := none }, accessFlags := 4, code := some k12c0 }
/-- java/util/AbstractCollection -/
def k12 : Class := { plain "java/util/AbstractCollection" (some 0) with
  accessFlags := 1057
  interfaces := #[11]
  cf := some (fileOf pool12 8 #[] #[{ accessFlags := 4, nameIndex := 5, descriptorIndex := 6, attributes := #[] }] 1057 2 #[77] #[])
  fields := #[]
  methods := #[k12m0]
  instanceTypes := #[]
  staticTypes := #[]
  resolved := Array.replicate 160 none
  statics := none }

def pool13 : Array CpInfo := pool [(8, .class_ 10), (1, u "java/util/SequencedCollection"), (15, .class_ 27), (0, u "java/lang/Object"), (0, .class_ 29), (0, u "java/util/Collection")] 27

/-- java/util/SequencedCollection -/
def k13 : Class := { plain "java/util/SequencedCollection" (some 0) with
  accessFlags := 1537
  interfaces := #[11]
  cf := some (fileOf pool13 8 #[] #[] 1537 26 #[28] #[])
  fields := #[]
  methods := #[]
  instanceTypes := #[]
  staticTypes := #[]
  resolved := Array.replicate 57 none
  statics := none }

def pool14 : Array CpInfo := pool [(8, .class_ 10), (1, u "java/util/List"), (49, u "add"), (3, u "(Ljava/lang/Object;)Z"), (10, u "get"), (0, u "(I)Ljava/lang/Object;"), (2, u "size"), (0, u "()I"), (22, .class_ 104), (0, u "java/lang/Object"), (15, .class_ 121), (0, u "java/util/SequencedCollection")] 129

def k14m0 : Method := { name := "size", desc := "()I", sig := { parameters := [], returnType := some .int }, accessFlags := 1025, code := none }
def k14m1 : Method := { name := "add", desc := "(Ljava/lang/Object;)Z", sig := { parameters := [(.object "java/lang/Object")], returnType := some .boolean }, accessFlags := 1025, code := none }
def k14m2 : Method := { name := "get", desc := "(I)Ljava/lang/Object;", sig := { parameters := [.int], returnType := some (.object "java/lang/Object") }, accessFlags := 1025, code := none }
/-- java/util/List -/
def k14 : Class := { plain "java/util/List" (some 0) with
  accessFlags := 1537
  interfaces := #[13]
  cf := some (fileOf pool14 8 #[] #[{ accessFlags := 1025, nameIndex := 79, descriptorIndex := 80, attributes := #[] }, { accessFlags := 1025, nameIndex := 60, descriptorIndex := 64, attributes := #[] }, { accessFlags := 1025, nameIndex := 75, descriptorIndex := 76, attributes := #[] }] 1537 103 #[120] #[])
  fields := #[]
  methods := #[k14m0, k14m1, k14m2]
  instanceTypes := #[]
  staticTypes := #[]
  resolved := Array.replicate 251 none
  statics := none }

def pool15 : Array CpInfo := pool [(1, .methodref 2 3), (0, .class_ 4), (0, .nameAndType 5 6), (0, u "java/util/AbstractCollection"), (0, u "<init>"), (0, u "()V"), (0, .fieldref 8 9), (0, .class_ 10), (0, .nameAndType 11 12), (0, u "java/util/AbstractList"), (0, u "modCount"), (0, u "I"), (64, .class_ 78), (0, u "java/util/AbstractList$Itr"), (3, .class_ 83), (0, u "java/util/AbstractList$ListItr"), (9, .class_ 94), (0, u "java/util/AbstractList$RandomAccessSubList"), (3, .class_ 99), (0, u "java/util/AbstractList$SubList"), (33, .class_ 134), (0, u "java/util/List"), (73, .class_ 209), (0, u "java/util/AbstractList$SubList$1"), (0, .class_ 211), (0, u "java/util/AbstractList$RandomAccessSpliterator")] 6

def k15c0 : Code := { maxStack := 2, maxLocals := 1, code := jdk_39_method_1_code, exceptionTable := #[], attributes := #[] }
def k15m0 : Method := { name := "<init>", desc := "()V", sig := { parameters := [], returnType := none }, accessFlags := 4, code := some k15c0 }
/-- java/util/AbstractList -/
def k15 : Class := { plain "java/util/AbstractList" (some 12) with
  accessFlags := 1057
  interfaces := #[14]
  cf := some (fileOf pool15 8 #[.nestMembers #[93, 98, 208, 210, 82, 77]] #[{ accessFlags := 4, nameIndex := 5, descriptorIndex := 6, attributes := #[] }] 1057 2 #[133] #[{ accessFlags := 132, nameIndex := 11, descriptorIndex := 12, attributes := #[] }])
  fields := #[{ name := "modCount", type := .int, accessFlags := 132, slot := 0, constantValue := 0 }]
  methods := #[k15m0]
  instanceTypes := #[.int]
  staticTypes := #[]
  resolved := Array.replicate 218 none
  statics := none }

def pool16 : Array CpInfo := pool [(1, .class_ 2), (0, u "java/util/RandomAccess"), (0, .class_ 4), (0, u "java/lang/Object")] 2

/-- java/util/RandomAccess -/
def k16 : Class := { plain "java/util/RandomAccess" (some 0) with
  accessFlags := 1537
  interfaces := #[]
  cf := some (fileOf pool16 1 #[] #[] 1537 3 #[] #[])
  fields := #[]
  methods := #[]
  instanceTypes := #[]
  staticTypes := #[]
  resolved := Array.replicate 7 none
  statics := none }

def pool17 : Array CpInfo := pool [(1, .class_ 2), (0, u "java/lang/Cloneable"), (0, .class_ 4), (0, u "java/lang/Object")] 2

/-- java/lang/Cloneable -/
def k17 : Class := { plain "java/lang/Cloneable" (some 0) with
  accessFlags := 1537
  interfaces := #[]
  cf := some (fileOf pool17 1 #[] #[] 1537 3 #[] #[])
  fields := #[]
  methods := #[]
  instanceTypes := #[]
  staticTypes := #[]
  resolved := Array.replicate 7 none
  statics := none }

def pool18 : Array CpInfo := pool [(1, .methodref 2 3), (0, .class_ 4), (0, .nameAndType 5 6), (0, u "java/util/AbstractList"), (0, u "<init>"), (0, u "()V"), (0, .class_ 8), (0, u "java/lang/Object"), (0, .fieldref 10 11), (0, .class_ 12), (0, .nameAndType 13 14), (0, u "java/util/ArrayList"), (0, u "elementData"), (0, u "[Ljava/lang/Object;"), (2, u "EMPTY_ELEMENTDATA"), (21, .fieldref 10 40), (0, .nameAndType 41 14), (0, u "DEFAULTCAPACITY_EMPTY_ELEMENTDATA"), (5, u "()[Ljava/lang/Object;"), (0, .fieldref 10 49), (0, .nameAndType 50 51), (0, u "size"), (0, u "I"), (11, .fieldref 10 64), (0, .nameAndType 65 51), (0, u "modCount"), (3, .methodref 10 70), (0, .nameAndType 71 72), (0, u "grow"), (0, u "(I)[Ljava/lang/Object;"), (6, .methodref 80 81), (0, .class_ 82), (0, .nameAndType 83 84), (0, u "java/lang/Math"), (0, u "max"), (0, u "(II)I"), (11, u "(Ljava/lang/Object;)Z"), (21, .methodref 119 120), (0, .class_ 121), (0, .nameAndType 122 84), (0, u "java/util/Objects"), (0, u "checkIndex"), (0, .methodref 10 124), (0, .nameAndType 13 125), (0, u "(I)Ljava/lang/Object;"), (3, .methodref 10 130), (0, .nameAndType 71 47), (0, .methodref 10 132), (0, .nameAndType 133 134), (0, u "add"), (0, u "(Ljava/lang/Object;[Ljava/lang/Object;I)V"), (13, .class_ 149), (0, u "java/util/List"), (36, u "()I"), (75, .class_ 263), (0, u "java/util/ArrayList$ListItr"), (3, .class_ 268), (0, u "java/util/ArrayList$Itr"), (7, .class_ 277), (0, u "java/util/ArrayList$SubList"), (12, .class_ 291), (0, u "java/util/ArrayList$ArrayListSpliterator"), (37, .class_ 330), (0, u "java/util/RandomAccess"), (0, .class_ 332), (0, u "java/lang/Cloneable"), (0, .class_ 334), (0, u "java/io/Serializable"), (0, u "serialVersionUID"), (0, u "J"), (3, u "DEFAULT_CAPACITY"), (40, u "get"), (118, .class_ 501), (0, u "java/util/ArrayList$SubList$2"), (0, .class_ 503), (0, u "java/util/ArrayList$SubList$1")] 5

def k18c0 : Code := { maxStack := 2, maxLocals := 1, code := jdk_38_method_2_code, exceptionTable := #[], attributes := #[] }
def k18m0 : Method := { name := "<init>", desc := "()V", sig := { parameters := [], returnType := none }, accessFlags := 1, code := some k18c0 }
def k18c1 : Code := { maxStack := 4, maxLocals := 4, code := jdk_38_method_6_code, exceptionTable := #[], attributes := #[] }
def k18m1 : Method := { name := "grow", desc := "(I)[Ljava/lang/Object;", sig := { parameters := [.int], returnType := some (.array (.object "java/lang/Object")) }, accessFlags := 2, code := some k18c1 }
def k18c2 : Code := { maxStack := 3, maxLocals := 1, code := jdk_38_method_7_code, exceptionTable := #[], attributes := #[] }
def k18m2 : Method := { name := "grow", desc := "()[Ljava/lang/Object;", sig := { parameters := [], returnType := some (.array (.object "java/lang/Object")) }, accessFlags := 2, code := some k18c2 }
def k18c3 : Code := { maxStack := 1, maxLocals := 1, code := jdk_38_method_8_code, exceptionTable := #[], attributes := #[] }
def k18m3 : Method := { name := "size", desc := "()I", sig := { parameters := [], returnType := some .int }, accessFlags := 1, code := some k18c3 }
def k18c4 : Code := { maxStack := 2, maxLocals := 2, code := jdk_38_method_18_code, exceptionTable := #[], attributes := #[] }
def k18m4 : Method := { name := "elementData", desc := "(I)Ljava/lang/Object;", sig := { parameters := [.int], returnType := some (.object "java/lang/Object") }, accessFlags := 0, code := some k18c4 }
def k18c5 : Code := { maxStack := 2, maxLocals := 2, code := jdk_38_method_20_code, exceptionTable := #[], attributes := #[] }
def k18m5 : Method := { name := "get", desc := "(I)Ljava/lang/Object;", sig := { parameters := [.int], returnType := some (.object "java/lang/Object") }, accessFlags := 1, code := some k18c5 }
def k18c6 : Code := { maxStack := 3, maxLocals := 4, code := jdk_38_method_24_code, exceptionTable := #[], attributes := #[] }
def k18m6 : Method := { name := "add", desc := "(Ljava/lang/Object;[Ljava/lang/Object;I)V", sig := { parameters := [(.object "java/lang/Object"), (.array (.object "java/lang/Object")), .int], returnType := none }, accessFlags := 2, code := some k18c6 }
def k18c7 : Code := { maxStack := 4, maxLocals := 2, code := jdk_38_method_25_code, exceptionTable := #[], attributes := #[] }
def k18m7 : Method := { name := "add", desc := "(Ljava/lang/Object;)Z", sig := { parameters := [(.object "java/lang/Object")], returnType := some .boolean }, accessFlags := 1, code := some k18c7 }
/-- java/util/ArrayList -/
def k18 : Class := { plain "java/util/ArrayList" (some 15) with
  accessFlags := 33
  interfaces := #[14, 16, 17, 3]
  cf := some (fileOf pool18 10 #[.nestMembers #[290, 276, 500, 502, 262, 267]] #[{ accessFlags := 1, nameIndex := 5, descriptorIndex := 6, attributes := #[] }, { accessFlags := 2, nameIndex := 71, descriptorIndex := 72, attributes := #[] }, { accessFlags := 2, nameIndex := 71, descriptorIndex := 47, attributes := #[] }, { accessFlags := 1, nameIndex := 50, descriptorIndex := 186, attributes := #[] }, { accessFlags := 0, nameIndex := 13, descriptorIndex := 125, attributes := #[] }, { accessFlags := 1, nameIndex := 381, descriptorIndex := 125, attributes := #[] }, { accessFlags := 2, nameIndex := 133, descriptorIndex := 134, attributes := #[] }, { accessFlags := 1, nameIndex := 133, descriptorIndex := 96, attributes := #[] }] 33 2 #[148, 329, 331, 333] #[{ accessFlags := 26, nameIndex := 335, descriptorIndex := 336, attributes := #[] }, { accessFlags := 26, nameIndex := 340, descriptorIndex := 51, attributes := #[] }, { accessFlags := 26, nameIndex := 17, descriptorIndex := 14, attributes := #[] }, { accessFlags := 26, nameIndex := 41, descriptorIndex := 14, attributes := #[] }, { accessFlags := 128, nameIndex := 13, descriptorIndex := 14, attributes := #[] }, { accessFlags := 2, nameIndex := 50, descriptorIndex := 51, attributes := #[] }])
  fields := #[{ name := "serialVersionUID", type := .long, accessFlags := 26, slot := 0, constantValue := 0 }, { name := "DEFAULT_CAPACITY", type := .int, accessFlags := 26, slot := 1, constantValue := 0 }, { name := "EMPTY_ELEMENTDATA", type := (.array (.object "java/lang/Object")), accessFlags := 26, slot := 2, constantValue := 0 }, { name := "DEFAULTCAPACITY_EMPTY_ELEMENTDATA", type := (.array (.object "java/lang/Object")), accessFlags := 26, slot := 3, constantValue := 0 }, { name := "elementData", type := (.array (.object "java/lang/Object")), accessFlags := 128, slot := 1, constantValue := 0 }, { name := "size", type := .int, accessFlags := 2, slot := 2, constantValue := 0 }]
  methods := #[k18m0, k18m1, k18m2, k18m3, k18m4, k18m5, k18m6, k18m7]
  instanceTypes := #[.int, (.array (.object "java/lang/Object")), .int]
  staticTypes := #[.long, .int, (.array (.object "java/lang/Object")), (.array (.object "java/lang/Object"))]
  resolved := Array.replicate 509 none
  statics := some 1 }

def pool19 : Array CpInfo := pool [(1, .class_ 2), (0, u "java/lang/Math"), (1, .class_ 6), (1, u "java/lang/Object"), (0, u "<init>"), (0, u "()V"), (89, .class_ 100), (1, u "java/lang/Math$RandomNumberGeneratorHolder"), (71, u "negativeZeroFloatBits"), (0, u "J"), (2, u "negativeZeroDoubleBits"), (21, u "max"), (46, u "$assertionsDisabled"), (0, u "Z"), (88, u "(II)I"), (2, u "twoToTheDoubleScaleDown"), (0, u "D"), (4, u "twoToTheDoubleScaleUp"), (9, u "E"), (3, u "PI"), (2, u "TAU"), (2, u "DEGREES_TO_RADIANS"), (0, u "RADIANS_TO_DEGREES")] 94

def k19m0 : Method := { name := "<init>", desc := "()V", sig := { parameters := [], returnType := none }, accessFlags := 2, code := none }
def k19c1 : Code := { maxStack := 2, maxLocals := 2, code := jdk_29_method_65_code, exceptionTable := #[], attributes := #[] }
def k19m1 : Method := { name := "max", desc := "(II)I", sig := { parameters := [.int, .int], returnType := some .int }, accessFlags := 9, code := some k19c1 }
/-- java/lang/Math -/
def k19 : Class := { plain "java/lang/Math" (some 0) with
  accessFlags := 49
  interfaces := #[]
  cf := some (fileOf pool19 1 #[.nestMembers #[98]] #[{ accessFlags := 2, nameIndex := 7, descriptorIndex := 8, attributes := #[] }, { accessFlags := 9, nameIndex := 198, descriptorIndex := 335, attributes := #[] }] 49 4 #[] #[{ accessFlags := 25, nameIndex := 354, descriptorIndex := 339, attributes := #[] }, { accessFlags := 25, nameIndex := 358, descriptorIndex := 339, attributes := #[] }, { accessFlags := 25, nameIndex := 361, descriptorIndex := 339, attributes := #[] }, { accessFlags := 26, nameIndex := 364, descriptorIndex := 339, attributes := #[] }, { accessFlags := 26, nameIndex := 365, descriptorIndex := 339, attributes := #[] }, { accessFlags := 26, nameIndex := 172, descriptorIndex := 173, attributes := #[] }, { accessFlags := 26, nameIndex := 176, descriptorIndex := 173, attributes := #[] }, { accessFlags := 8, nameIndex := 344, descriptorIndex := 339, attributes := #[] }, { accessFlags := 8, nameIndex := 338, descriptorIndex := 339, attributes := #[] }, { accessFlags := 4120, nameIndex := 245, descriptorIndex := 246, attributes := #[] }])
  fields := #[{ name := "E", type := .double, accessFlags := 25, slot := 0, constantValue := 0 }, { name := "PI", type := .double, accessFlags := 25, slot := 1, constantValue := 0 }, { name := "TAU", type := .double, accessFlags := 25, slot := 2, constantValue := 0 }, { name := "DEGREES_TO_RADIANS", type := .double, accessFlags := 26, slot := 3, constantValue := 0 }, { name := "RADIANS_TO_DEGREES", type := .double, accessFlags := 26, slot := 4, constantValue := 0 }, { name := "negativeZeroFloatBits", type := .long, accessFlags := 26, slot := 5, constantValue := 0 }, { name := "negativeZeroDoubleBits", type := .long, accessFlags := 26, slot := 6, constantValue := 0 }, { name := "twoToTheDoubleScaleUp", type := .double, accessFlags := 8, slot := 7, constantValue := 0 }, { name := "twoToTheDoubleScaleDown", type := .double, accessFlags := 8, slot := 8, constantValue := 0 }, { name := "$assertionsDisabled", type := .boolean, accessFlags := 4120, slot := 9, constantValue := 0 }]
  methods := #[k19m0, k19m1]
  instanceTypes := #[]
  staticTypes := #[.double, .double, .double, .double, .double, .long, .long, .double, .double, .boolean]
  resolved := Array.replicate 460 none
  statics := none }

def pool20 : Array CpInfo := pool [(2, .class_ 4), (1, u "java/lang/Object"), (0, u "<init>"), (0, u "()V"), (35, .class_ 44), (1, u "java/util/Objects"), (60, .methodref 106 107), (0, .class_ 108), (0, .nameAndType 109 110), (0, u "jdk/internal/util/Preconditions"), (0, u "checkIndex"), (0, u "(IILjava/util/function/BiFunction;)I"), (60, u "(II)I")] 12

def k20m0 : Method := { name := "<init>", desc := "()V", sig := { parameters := [], returnType := none }, accessFlags := 2, code := none }
def k20c1 : Code := { maxStack := 3, maxLocals := 2, code := jdk_31_method_17_code, exceptionTable := #[], attributes := #[] }
def k20m1 : Method := { name := "checkIndex", desc := "(II)I", sig := { parameters := [.int, .int], returnType := some .int }, accessFlags := 9, code := some k20c1 }
/-- java/util/Objects -/
def k20 : Class := { plain "java/util/Objects" (some 0) with
  accessFlags := 49
  interfaces := #[]
  cf := some (fileOf pool20 42 #[] #[{ accessFlags := 2, nameIndex := 5, descriptorIndex := 6, attributes := #[] }, { accessFlags := 9, nameIndex := 109, descriptorIndex := 171, attributes := #[] }] 49 2 #[] #[])
  fields := #[]
  methods := #[k20m0, k20m1]
  instanceTypes := #[]
  staticTypes := #[]
  resolved := Array.replicate 184 none
  statics := none }

def pool21 : Array CpInfo := pool [(2, .class_ 4), (1, u "java/lang/Object"), (0, u "<init>"), (0, u "()V"), (17, .class_ 26), (1, u "jdk/internal/util/Preconditions"), (6, u "checkIndex"), (21, .class_ 56), (0, u "jdk/internal/util/Preconditions$4"), (57, .class_ 115), (0, u "jdk/internal/util/Preconditions$1"), (7, u "SIOOBE_FORMATTER"), (0, u "Ljava/util/function/BiFunction;"), (0, .class_ 126), (0, u "jdk/internal/util/Preconditions$2"), (3, u "AIOOBE_FORMATTER"), (0, .class_ 132), (0, u "jdk/internal/util/Preconditions$3"), (3, u "IOOBE_FORMATTER"), (41, u "(IILjava/util/function/BiFunction;)I")] 15

def k21m0 : Method := { name := "<init>", desc := "()V", sig := { parameters := [], returnType := none }, accessFlags := 1, code := none }
def k21c1 : Code := { maxStack := 3, maxLocals := 3, code := jdk_41_method_11_code, exceptionTable := #[], attributes := #[] }
def k21m1 : Method := { name := "checkIndex", desc := "(IILjava/util/function/BiFunction;)I", sig := { parameters := [.int, .int, (.object "java/util/function/BiFunction")], returnType := some .int }, accessFlags := 9, code := some k21c1 }
/-- jdk/internal/util/Preconditions -/
def k21 : Class := { plain "jdk/internal/util/Preconditions" (some 0) with
  accessFlags := 33
  interfaces := #[]
  cf := some (fileOf pool21 24 #[.nestMembers #[55, 131, 125, 114]] #[{ accessFlags := 1, nameIndex := 5, descriptorIndex := 6, attributes := #[] }, { accessFlags := 9, nameIndex := 33, descriptorIndex := 178, attributes := #[] }] 33 2 #[] #[{ accessFlags := 25, nameIndex := 123, descriptorIndex := 124, attributes := #[] }, { accessFlags := 25, nameIndex := 130, descriptorIndex := 124, attributes := #[] }, { accessFlags := 25, nameIndex := 136, descriptorIndex := 124, attributes := #[] }])
  fields := #[{ name := "SIOOBE_FORMATTER", type := (.object "java/util/function/BiFunction"), accessFlags := 25, slot := 0, constantValue := 0 }, { name := "AIOOBE_FORMATTER", type := (.object "java/util/function/BiFunction"), accessFlags := 25, slot := 1, constantValue := 0 }, { name := "IOOBE_FORMATTER", type := (.object "java/util/function/BiFunction"), accessFlags := 25, slot := 2, constantValue := 0 }]
  methods := #[k21m0, k21m1]
  instanceTypes := #[]
  staticTypes := #[(.object "java/util/function/BiFunction"), (.object "java/util/function/BiFunction"), (.object "java/util/function/BiFunction")]
  resolved := Array.replicate 194 none
  statics := some 2 }

def pool22 : Array CpInfo := pool [(9, u "<init>"), (6, .class_ 18), (1, u "java/lang/Object"), (0, u "()V"), (1, .class_ 23), (1, u "jdk/internal/util/ArraysSupport"), (0, u "LOG2_ARRAY_LONG_INDEX_SCALE"), (0, u "I"), (2, u "U"), (0, u "Ljdk/internal/misc/Unsafe;"), (8, u "BIG_ENDIAN"), (0, u "Z"), (8, u "LOG2_BYTE_BIT_SIZE"), (4, u "LOG2_ARRAY_INT_INDEX_SCALE"), (54, u "JLA"), (0, u "Ljdk/internal/access/JavaLangAccess;"), (11, u "LOG2_ARRAY_BOOLEAN_INDEX_SCALE"), (9, u "LOG2_ARRAY_BYTE_INDEX_SCALE"), (5, u "LOG2_ARRAY_CHAR_INDEX_SCALE"), (5, u "LOG2_ARRAY_SHORT_INDEX_SCALE"), (18, u "LOG2_ARRAY_FLOAT_INDEX_SCALE"), (24, u "LOG2_ARRAY_DOUBLE_INDEX_SCALE"), (89, u "T_BOOLEAN"), (2, u "T_CHAR"), (1, u "T_FLOAT"), (1, u "T_DOUBLE"), (1, u "T_BYTE"), (1, u "T_SHORT"), (1, u "T_INT"), (1, u "T_LONG"), (1, u "SOFT_MAX_ARRAY_LENGTH")] 83

def k22m0 : Method := { name := "<init>", desc := "()V", sig := { parameters := [], returnType := none }, accessFlags := 2, code := none }
/-- jdk/internal/util/ArraysSupport -/
def k22 : Class := { plain "jdk/internal/util/ArraysSupport" (some 0) with
  accessFlags := 33
  interfaces := #[]
  cf := some (fileOf pool22 21 #[] #[{ accessFlags := 2, nameIndex := 9, descriptorIndex := 19, attributes := #[] }] 33 16 #[] #[{ accessFlags := 24, nameIndex := 28, descriptorIndex := 29, attributes := #[] }, { accessFlags := 26, nameIndex := 38, descriptorIndex := 39, attributes := #[] }, { accessFlags := 25, nameIndex := 121, descriptorIndex := 25, attributes := #[] }, { accessFlags := 25, nameIndex := 131, descriptorIndex := 25, attributes := #[] }, { accessFlags := 25, nameIndex := 137, descriptorIndex := 25, attributes := #[] }, { accessFlags := 25, nameIndex := 143, descriptorIndex := 25, attributes := #[] }, { accessFlags := 25, nameIndex := 53, descriptorIndex := 25, attributes := #[] }, { accessFlags := 25, nameIndex := 24, descriptorIndex := 25, attributes := #[] }, { accessFlags := 25, nameIndex := 162, descriptorIndex := 25, attributes := #[] }, { accessFlags := 25, nameIndex := 187, descriptorIndex := 25, attributes := #[] }, { accessFlags := 26, nameIndex := 48, descriptorIndex := 25, attributes := #[] }, { accessFlags := 25, nameIndex := 277, descriptorIndex := 25, attributes := #[] }, { accessFlags := 25, nameIndex := 280, descriptorIndex := 25, attributes := #[] }, { accessFlags := 25, nameIndex := 282, descriptorIndex := 25, attributes := #[] }, { accessFlags := 25, nameIndex := 284, descriptorIndex := 25, attributes := #[] }, { accessFlags := 25, nameIndex := 286, descriptorIndex := 25, attributes := #[] }, { accessFlags := 25, nameIndex := 288, descriptorIndex := 25, attributes := #[] }, { accessFlags := 25, nameIndex := 290, descriptorIndex := 25, attributes := #[] }, { accessFlags := 25, nameIndex := 292, descriptorIndex := 25, attributes := #[] }, { accessFlags := 26, nameIndex := 108, descriptorIndex := 109, attributes := #[] }, { accessFlags := 25, nameIndex := 294, descriptorIndex := 25, attributes := #[] }])
  fields := #[{ name := "U", type := (.object "jdk/internal/misc/Unsafe"), accessFlags := 24, slot := 0, constantValue := 0 }, { name := "BIG_ENDIAN", type := .boolean, accessFlags := 26, slot := 1, constantValue := 0 }, { name := "LOG2_ARRAY_BOOLEAN_INDEX_SCALE", type := .int, accessFlags := 25, slot := 2, constantValue := 0 }, { name := "LOG2_ARRAY_BYTE_INDEX_SCALE", type := .int, accessFlags := 25, slot := 3, constantValue := 0 }, { name := "LOG2_ARRAY_CHAR_INDEX_SCALE", type := .int, accessFlags := 25, slot := 4, constantValue := 0 }, { name := "LOG2_ARRAY_SHORT_INDEX_SCALE", type := .int, accessFlags := 25, slot := 5, constantValue := 0 }, { name := "LOG2_ARRAY_INT_INDEX_SCALE", type := .int, accessFlags := 25, slot := 6, constantValue := 0 }, { name := "LOG2_ARRAY_LONG_INDEX_SCALE", type := .int, accessFlags := 25, slot := 7, constantValue := 0 }, { name := "LOG2_ARRAY_FLOAT_INDEX_SCALE", type := .int, accessFlags := 25, slot := 8, constantValue := 0 }, { name := "LOG2_ARRAY_DOUBLE_INDEX_SCALE", type := .int, accessFlags := 25, slot := 9, constantValue := 0 }, { name := "LOG2_BYTE_BIT_SIZE", type := .int, accessFlags := 26, slot := 10, constantValue := 0 }, { name := "T_BOOLEAN", type := .int, accessFlags := 25, slot := 11, constantValue := 0 }, { name := "T_CHAR", type := .int, accessFlags := 25, slot := 12, constantValue := 0 }, { name := "T_FLOAT", type := .int, accessFlags := 25, slot := 13, constantValue := 0 }, { name := "T_DOUBLE", type := .int, accessFlags := 25, slot := 14, constantValue := 0 }, { name := "T_BYTE", type := .int, accessFlags := 25, slot := 15, constantValue := 0 }, { name := "T_SHORT", type := .int, accessFlags := 25, slot := 16, constantValue := 0 }, { name := "T_INT", type := .int, accessFlags := 25, slot := 17, constantValue := 0 }, { name := "T_LONG", type := .int, accessFlags := 25, slot := 18, constantValue := 0 }, { name := "JLA", type := (.object "jdk/internal/access/JavaLangAccess"), accessFlags := 26, slot := 19, constantValue := 0 }, { name := "SOFT_MAX_ARRAY_LENGTH", type := .int, accessFlags := 25, slot := 20, constantValue := 0 }]
  methods := #[k22m0]
  instanceTypes := #[]
  staticTypes := #[(.object "jdk/internal/misc/Unsafe"), .boolean, .int, .int, .int, .int, .int, .int, .int, .int, .int, .int, .int, .int, .int, .int, .int, .int, .int, (.object "jdk/internal/access/JavaLangAccess"), .int]
  resolved := Array.replicate 378 none
  statics := none }

/-- the primitive byte -/
def k23 : Class := { plain "byte" none with kind := .primitive 'B', accessFlags := 0x411 }
/-- [B -/
def k24 : Class := { plain "[B" (some 0) with kind := .array 23 .byte, interfaces := #[17, 3], accessFlags := 1041 }

/-- the primitive int -/
def k25 : Class := { plain "int" none with kind := .primitive 'I', accessFlags := 0x411 }
/-- [I -/
def k26 : Class := { plain "[I" (some 0) with kind := .array 25 .int, interfaces := #[17, 3], accessFlags := 1041 }

/-- [Ljava/lang/Object; -/
def k27 : Class := { plain "[Ljava/lang/Object;" (some 0) with kind := .array 0 (.object "java/lang/Object"), interfaces := #[17, 3], accessFlags := 1041 }

def heap : Heap := #[{ cls := 8, slots := #[.long 0, .int 1, .null, .int 0, .null, .int 0, .int 0], vm := .statics 8 },
  { cls := 18, slots := #[.long 0, .int 0, .ref 3, .ref 4], vm := .statics 18 },
  { cls := 21, slots := #[.null, .null, .null], vm := .statics 21 },
  { cls := 27, slots := #[], vm := .none },
  { cls := 27, slots := #[], vm := .none }]
def classes : Array Class := #[k0, k1, k2, k3, k4, k5, k6, k7, k8, k9, k10, k11, k12, k13, k14, k15, k16, k17, k18, k19, k20, k21, k22, k23, k24, k25, k26, k27]
def interned : List (Array UInt16 × Addr) := []
def slotsUsed : Nat := 14
def theMethod : MethodId := ⟨1, 1⟩
def args0 : Array Value := #[.int 3, .int 5]
def aboutOver (below : List Frame) : State where
  vm := { classes := classes, interned := interned.toArray }
  heap := heap
  slotsUsed := slotsUsed
  threads := #[{ frames := .invoking theMethod args0 :: below }]
def below0 : List Frame := [.native { method := ⟨0, 0⟩, args := #[] }]
def about1 : State := aboutOver below0
def p0 : Program := .bare "" "" ""
def e0 : Env := launch0.env 0 0 0
theorem w_frames : about1.frames = Frame.invoking theMethod args0 :: below0 := rfl
set_option maxRecDepth 65536 in
theorem w_args : argsFit about1.vm theMethod args0 = true := by decide +kernel
set_option maxRecDepth 65536 in
theorem w_heap : heapFits about1 = true := by decide +kernel
set_option maxRecDepth 65536 in
theorem w_runnable : about1.curStatus? = some .runnable := by decide +kernel
set_option maxRecDepth 65536 in
theorem w_alone : about1.alone = true := by decide +kernel
set_option maxRecDepth 65536 in
theorem w_named : about1.methodNamed? x = some theMethod := by decide +kernel
set_option maxRecDepth 65536 in
theorem w_hears : about1.hears theMethod below0 = true := by decide +kernel
set_option maxRecDepth 65536 in
theorem w_ripe : about1.ripe theMethod args0 below0 = true := by decide +kernel
theorem w_running : about1.status = .running := rfl
set_option maxRecDepth 65536 in
theorem w_room : about1.hasRoom e0.platform room_1 = true :=
  launch0.hasRoom_least _ room_1 (by decide +kernel) (by decide +kernel) (by decide +kernel) (by decide +kernel) (by decide +kernel) (by decide +kernel)
theorem allAtoms_all (ts : List Jvm.Cond) (a : Array Jvm.Value) (st : Jvm.State) : (allAtoms ts).before a st = ts.all (fun c => c.before a st) := by
  induction ts with
  | nil => rfl
  | cons c t ih =>
    show (Jvm.Cond.and c (allAtoms t)).before a st = _
    rw [Jvm.Cond.before_and, ih, List.all_cons]
def words1 : List Jvm.Cond := Jvm.Cond.code x code maxLocals ret :: tables_1
/-- a 'code' word, met by the world's own term for the bytes: nothing is compared byte by byte -/
theorem code_word {y : MethodName} {bytes : ByteArray} {mx : Nat} {rt : Option FieldType} {a : Array Value} {s : State} {m : MethodId} {meth : Method} {c : Code} (h1 : s.methodNamed? y = some m) (h2 : s.vm.method? m = some meth) (h3 : meth.code = some c) (h4 : c.code = bytes)
    (h5 : (c.maxLocals == mx && c.exceptionTable.isEmpty && decide (c.maxStack ≤ mostOperands) && decide (meth.sig.returnType = rt) && !meth.locks && decide (parseMethodDescriptor y.desc = some meth.sig)) = true) : (Jvm.Cond.code y bytes mx rt).before a s = true := by
  simp only [Bool.and_eq_true, beq_iff_eq, Bool.not_eq_true', decide_eq_true_eq] at h5
  obtain ⟨⟨⟨⟨⟨g1, g2⟩, g3⟩, g4⟩, g5⟩, g6⟩ := h5
  simp [Cond.before, Cond.holds, Cond.value, h1, h2, h3, h4, g1, g2, g3, g4, g5, g6]
def isCode : Jvm.Cond → Bool
  | .code _ _ _ _ => true
  | _ => false
theorem all_split {L : List Jvm.Cond} {P : Jvm.Cond → Bool} (h1 : L.all (fun c => isCode c || P c) = true) (h2 : ∀ c ∈ L.filter isCode, P c = true) : L.all P = true := by
  refine List.all_eq_true.mpr fun c hc => ?_
  have h := List.all_eq_true.mp h1 c hc
  rcases Bool.eq_false_or_eq_true (isCode c) with hi | hi
  · exact h2 c (List.mem_filter.mpr ⟨hc, hi⟩)
  · simpa [hi] using h
set_option maxRecDepth 65536 in
theorem w_c0 : (Jvm.Cond.code x code maxLocals ret).before args0 about1 = true := code_word (m := ⟨1, 1⟩) (meth := k1m1) (c := k1c1) (by decide +kernel) rfl rfl rfl (by decide +kernel)
set_option maxRecDepth 65536 in
theorem w_c1 : (Jvm.Cond.code ({ cls := "java/lang/String", name := "valueOf", desc := "(C)Ljava/lang/String;" } : Jvm.MethodName) jdk_42_method_139_code (1 : Nat) (Option.some (Jvm.ClassFile.FieldType.object "java/lang/String"))).before args0 about1 = true := code_word (m := ⟨8, 2⟩) (meth := k8m2) (c := k8c2) (by decide +kernel) rfl rfl rfl (by decide +kernel)
set_option maxRecDepth 65536 in
theorem w_c2 : (Jvm.Cond.code ({ cls := "java/lang/StringLatin1", name := "canEncode", desc := "(C)Z" } : Jvm.MethodName) jdk_43_method_3_code (1 : Nat) (Option.some Jvm.ClassFile.FieldType.boolean)).before args0 about1 = true := code_word (m := ⟨9, 1⟩) (meth := k9m1) (c := k9c1) (by decide +kernel) rfl rfl rfl (by decide +kernel)
set_option maxRecDepth 65536 in
theorem w_c3 : (Jvm.Cond.code ({ cls := "java/lang/StringLatin1", name := "toBytes", desc := "(C)[B" } : Jvm.MethodName) jdk_43_method_46_code (1 : Nat) (Option.some (Jvm.ClassFile.FieldType.array Jvm.ClassFile.FieldType.byte))).before args0 about1 = true := code_word (m := ⟨9, 3⟩) (meth := k9m3) (c := k9c3) (by decide +kernel) rfl rfl rfl (by decide +kernel)
set_option maxRecDepth 65536 in
theorem w_c4 : (Jvm.Cond.code ({ cls := "java/lang/String", name := "<init>", desc := "([BB)V" } : Jvm.MethodName) jdk_42_method_151_code (3 : Nat) (Option.none : Option Jvm.ClassFile.FieldType)).before args0 about1 = true := code_word (m := ⟨8, 3⟩) (meth := k8m3) (c := k8c3) (by decide +kernel) rfl rfl rfl (by decide +kernel)
set_option maxRecDepth 65536 in
theorem w_c5 : (Jvm.Cond.code ({ cls := "java/lang/Object", name := "<init>", desc := "()V" } : Jvm.MethodName) object_method_1_code (1 : Nat) (Option.none : Option Jvm.ClassFile.FieldType)).before args0 about1 = true := code_word (m := ⟨0, 0⟩) (meth := k0m0) (c := k0c0) (by decide +kernel) rfl rfl rfl (by decide +kernel)
set_option maxRecDepth 65536 in
theorem w_c6 : (Jvm.Cond.code ({ cls := "com/example/dataflow_to_dispatch/dataflowtodispatch/model/document/XmlElement", name := "<init>", desc := "(Ljava/lang/String;)V" } : Jvm.MethodName) prog_109_method_1_code (2 : Nat) (Option.none : Option Jvm.ClassFile.FieldType)).before args0 about1 = true := code_word (m := ⟨2, 0⟩) (meth := k2m0) (c := k2c0) (by decide +kernel) rfl rfl rfl (by decide +kernel)
set_option maxRecDepth 65536 in
theorem w_c7 : (Jvm.Cond.code ({ cls := "java/util/ArrayList", name := "<init>", desc := "()V" } : Jvm.MethodName) jdk_38_method_2_code (1 : Nat) (Option.none : Option Jvm.ClassFile.FieldType)).before args0 about1 = true := code_word (m := ⟨18, 0⟩) (meth := k18m0) (c := k18c0) (by decide +kernel) rfl rfl rfl (by decide +kernel)
set_option maxRecDepth 65536 in
theorem w_c8 : (Jvm.Cond.code ({ cls := "java/util/AbstractList", name := "<init>", desc := "()V" } : Jvm.MethodName) jdk_39_method_1_code (1 : Nat) (Option.none : Option Jvm.ClassFile.FieldType)).before args0 about1 = true := code_word (m := ⟨15, 0⟩) (meth := k15m0) (c := k15c0) (by decide +kernel) rfl rfl rfl (by decide +kernel)
set_option maxRecDepth 65536 in
theorem w_c9 : (Jvm.Cond.code ({ cls := "java/util/AbstractCollection", name := "<init>", desc := "()V" } : Jvm.MethodName) jdk_22_method_1_code (1 : Nat) (Option.none : Option Jvm.ClassFile.FieldType)).before args0 about1 = true := code_word (m := ⟨12, 0⟩) (meth := k12m0) (c := k12c0) (by decide +kernel) rfl rfl rfl (by decide +kernel)
set_option maxRecDepth 65536 in
theorem w_c10 : (Jvm.Cond.code ({ cls := "com/example/dataflow_to_dispatch/dataflowtodispatch/model/document/XmlElement", name := "children", desc := "()Ljava/util/List;" } : Jvm.MethodName) prog_109_method_6_code (3 : Nat) (Option.some (Jvm.ClassFile.FieldType.object "java/util/List"))).before args0 about1 = true := code_word (m := ⟨2, 1⟩) (meth := k2m1) (c := k2c1) (by decide +kernel) rfl rfl rfl (by decide +kernel)
set_option maxRecDepth 65536 in
theorem w_c11 : (Jvm.Cond.code ({ cls := "java/util/ArrayList", name := "size", desc := "()I" } : Jvm.MethodName) jdk_38_method_8_code (1 : Nat) (Option.some Jvm.ClassFile.FieldType.int)).before args0 about1 = true := code_word (m := ⟨18, 3⟩) (meth := k18m3) (c := k18c3) (by decide +kernel) rfl rfl rfl (by decide +kernel)
set_option maxRecDepth 65536 in
theorem w_c12 : (Jvm.Cond.code ({ cls := "com/example/dataflow_to_dispatch/dataflowtodispatch/model/document/XmlElement", name := "append", desc := "(Lcom/example/dataflow_to_dispatch/dataflowtodispatch/model/document/XmlElement;)Lcom/example/dataflow_to_dispatch/dataflowtodispatch/model/document/XmlElement;" } : Jvm.MethodName) prog_109_method_14_code (2 : Nat) (Option.some (Jvm.ClassFile.FieldType.object "com/example/dataflow_to_dispatch/dataflowtodispatch/model/document/XmlElement"))).before args0 about1 = true := code_word (m := ⟨2, 3⟩) (meth := k2m3) (c := k2c3) (by decide +kernel) rfl rfl rfl (by decide +kernel)
set_option maxRecDepth 65536 in
theorem w_c13 : (Jvm.Cond.code ({ cls := "com/example/dataflow_to_dispatch/dataflowtodispatch/model/document/XmlElement", name := "linkAfter", desc := "(Lcom/example/dataflow_to_dispatch/dataflowtodispatch/model/document/XmlElement;Lcom/example/dataflow_to_dispatch/dataflowtodispatch/model/document/XmlElement;)V" } : Jvm.MethodName) prog_109_method_15_code (3 : Nat) (Option.none : Option Jvm.ClassFile.FieldType)).before args0 about1 = true := code_word (m := ⟨2, 4⟩) (meth := k2m4) (c := k2c4) (by decide +kernel) rfl rfl rfl (by decide +kernel)
set_option maxRecDepth 65536 in
theorem w_c14 : (Jvm.Cond.code ({ cls := "java/util/ArrayList", name := "add", desc := "(Ljava/lang/Object;)Z" } : Jvm.MethodName) jdk_38_method_25_code (2 : Nat) (Option.some Jvm.ClassFile.FieldType.boolean)).before args0 about1 = true := code_word (m := ⟨18, 7⟩) (meth := k18m7) (c := k18c7) (by decide +kernel) rfl rfl rfl (by decide +kernel)
set_option maxRecDepth 65536 in
theorem w_c15 : (Jvm.Cond.code ({ cls := "java/util/ArrayList", name := "add", desc := "(Ljava/lang/Object;[Ljava/lang/Object;I)V" } : Jvm.MethodName) jdk_38_method_24_code (4 : Nat) (Option.none : Option Jvm.ClassFile.FieldType)).before args0 about1 = true := code_word (m := ⟨18, 6⟩) (meth := k18m6) (c := k18c6) (by decide +kernel) rfl rfl rfl (by decide +kernel)
set_option maxRecDepth 65536 in
theorem w_c16 : (Jvm.Cond.code ({ cls := "java/util/ArrayList", name := "grow", desc := "()[Ljava/lang/Object;" } : Jvm.MethodName) jdk_38_method_7_code (1 : Nat) (Option.some (Jvm.ClassFile.FieldType.array (Jvm.ClassFile.FieldType.object "java/lang/Object")))).before args0 about1 = true := code_word (m := ⟨18, 2⟩) (meth := k18m2) (c := k18c2) (by decide +kernel) rfl rfl rfl (by decide +kernel)
set_option maxRecDepth 65536 in
theorem w_c17 : (Jvm.Cond.code ({ cls := "java/util/ArrayList", name := "grow", desc := "(I)[Ljava/lang/Object;" } : Jvm.MethodName) jdk_38_method_6_code (4 : Nat) (Option.some (Jvm.ClassFile.FieldType.array (Jvm.ClassFile.FieldType.object "java/lang/Object")))).before args0 about1 = true := code_word (m := ⟨18, 1⟩) (meth := k18m1) (c := k18c1) (by decide +kernel) rfl rfl rfl (by decide +kernel)
set_option maxRecDepth 65536 in
theorem w_c18 : (Jvm.Cond.code ({ cls := "java/lang/Math", name := "max", desc := "(II)I" } : Jvm.MethodName) jdk_29_method_65_code (2 : Nat) (Option.some Jvm.ClassFile.FieldType.int)).before args0 about1 = true := code_word (m := ⟨19, 1⟩) (meth := k19m1) (c := k19c1) (by decide +kernel) rfl rfl rfl (by decide +kernel)
set_option maxRecDepth 65536 in
theorem w_c19 : (Jvm.Cond.code ({ cls := "java/util/ArrayList", name := "get", desc := "(I)Ljava/lang/Object;" } : Jvm.MethodName) jdk_38_method_20_code (2 : Nat) (Option.some (Jvm.ClassFile.FieldType.object "java/lang/Object"))).before args0 about1 = true := code_word (m := ⟨18, 5⟩) (meth := k18m5) (c := k18c5) (by decide +kernel) rfl rfl rfl (by decide +kernel)
set_option maxRecDepth 65536 in
theorem w_c20 : (Jvm.Cond.code ({ cls := "java/util/Objects", name := "checkIndex", desc := "(II)I" } : Jvm.MethodName) jdk_31_method_17_code (2 : Nat) (Option.some Jvm.ClassFile.FieldType.int)).before args0 about1 = true := code_word (m := ⟨20, 1⟩) (meth := k20m1) (c := k20c1) (by decide +kernel) rfl rfl rfl (by decide +kernel)
set_option maxRecDepth 65536 in
theorem w_c21 : (Jvm.Cond.code ({ cls := "jdk/internal/util/Preconditions", name := "checkIndex", desc := "(IILjava/util/function/BiFunction;)I" } : Jvm.MethodName) jdk_41_method_11_code (3 : Nat) (Option.some Jvm.ClassFile.FieldType.int)).before args0 about1 = true := code_word (m := ⟨21, 1⟩) (meth := k21m1) (c := k21c1) (by decide +kernel) rfl rfl rfl (by decide +kernel)
set_option maxRecDepth 65536 in
theorem w_c22 : (Jvm.Cond.code ({ cls := "java/util/ArrayList", name := "elementData", desc := "(I)Ljava/lang/Object;" } : Jvm.MethodName) jdk_38_method_18_code (2 : Nat) (Option.some (Jvm.ClassFile.FieldType.object "java/lang/Object"))).before args0 about1 = true := code_word (m := ⟨18, 4⟩) (meth := k18m4) (c := k18c4) (by decide +kernel) rfl rfl rfl (by decide +kernel)
set_option maxRecDepth 65536 in
theorem w_c23 : (Jvm.Cond.code ({ cls := "com/example/dataflow_to_dispatch/dataflowtodispatch/model/document/XmlElement", name := "position", desc := "()I" } : Jvm.MethodName) prog_109_method_7_code (3 : Nat) (Option.some Jvm.ClassFile.FieldType.int)).before args0 about1 = true := code_word (m := ⟨2, 2⟩) (meth := k2m2) (c := k2c2) (by decide +kernel) rfl rfl rfl (by decide +kernel)
set_option maxRecDepth 65536 in
theorem w_c24 : (Jvm.Cond.code ({ cls := "java/lang/String", name := "equals", desc := "(Ljava/lang/Object;)Z" } : Jvm.MethodName) jdk_42_method_66_code (3 : Nat) (Option.some Jvm.ClassFile.FieldType.boolean)).before args0 about1 = true := code_word (m := ⟨8, 1⟩) (meth := k8m1) (c := k8c1) (by decide +kernel) rfl rfl rfl (by decide +kernel)
set_option maxRecDepth 65536 in
theorem w_c25 : (Jvm.Cond.code ({ cls := "java/lang/StringLatin1", name := "equals", desc := "([B[B)Z" } : Jvm.MethodName) jdk_43_method_13_code (3 : Nat) (Option.some Jvm.ClassFile.FieldType.boolean)).before args0 about1 = true := code_word (m := ⟨9, 2⟩) (meth := k9m2) (c := k9c2) (by decide +kernel) rfl rfl rfl (by decide +kernel)
def codes1 : List Jvm.Cond := [Jvm.Cond.code x code maxLocals ret, Jvm.Cond.code ({ cls := "java/lang/String", name := "valueOf", desc := "(C)Ljava/lang/String;" } : Jvm.MethodName) jdk_42_method_139_code (1 : Nat) (Option.some (Jvm.ClassFile.FieldType.object "java/lang/String")), Jvm.Cond.code ({ cls := "java/lang/StringLatin1", name := "canEncode", desc := "(C)Z" } : Jvm.MethodName) jdk_43_method_3_code (1 : Nat) (Option.some Jvm.ClassFile.FieldType.boolean), Jvm.Cond.code ({ cls := "java/lang/StringLatin1", name := "toBytes", desc := "(C)[B" } : Jvm.MethodName) jdk_43_method_46_code (1 : Nat) (Option.some (Jvm.ClassFile.FieldType.array Jvm.ClassFile.FieldType.byte)), Jvm.Cond.code ({ cls := "java/lang/String", name := "<init>", desc := "([BB)V" } : Jvm.MethodName) jdk_42_method_151_code (3 : Nat) (Option.none : Option Jvm.ClassFile.FieldType), Jvm.Cond.code ({ cls := "java/lang/Object", name := "<init>", desc := "()V" } : Jvm.MethodName) object_method_1_code (1 : Nat) (Option.none : Option Jvm.ClassFile.FieldType), Jvm.Cond.code ({ cls := "com/example/dataflow_to_dispatch/dataflowtodispatch/model/document/XmlElement", name := "<init>", desc := "(Ljava/lang/String;)V" } : Jvm.MethodName) prog_109_method_1_code (2 : Nat) (Option.none : Option Jvm.ClassFile.FieldType), Jvm.Cond.code ({ cls := "java/util/ArrayList", name := "<init>", desc := "()V" } : Jvm.MethodName) jdk_38_method_2_code (1 : Nat) (Option.none : Option Jvm.ClassFile.FieldType), Jvm.Cond.code ({ cls := "java/util/AbstractList", name := "<init>", desc := "()V" } : Jvm.MethodName) jdk_39_method_1_code (1 : Nat) (Option.none : Option Jvm.ClassFile.FieldType), Jvm.Cond.code ({ cls := "java/util/AbstractCollection", name := "<init>", desc := "()V" } : Jvm.MethodName) jdk_22_method_1_code (1 : Nat) (Option.none : Option Jvm.ClassFile.FieldType), Jvm.Cond.code ({ cls := "com/example/dataflow_to_dispatch/dataflowtodispatch/model/document/XmlElement", name := "children", desc := "()Ljava/util/List;" } : Jvm.MethodName) prog_109_method_6_code (3 : Nat) (Option.some (Jvm.ClassFile.FieldType.object "java/util/List")), Jvm.Cond.code ({ cls := "java/util/ArrayList", name := "size", desc := "()I" } : Jvm.MethodName) jdk_38_method_8_code (1 : Nat) (Option.some Jvm.ClassFile.FieldType.int), Jvm.Cond.code ({ cls := "com/example/dataflow_to_dispatch/dataflowtodispatch/model/document/XmlElement", name := "append", desc := "(Lcom/example/dataflow_to_dispatch/dataflowtodispatch/model/document/XmlElement;)Lcom/example/dataflow_to_dispatch/dataflowtodispatch/model/document/XmlElement;" } : Jvm.MethodName) prog_109_method_14_code (2 : Nat) (Option.some (Jvm.ClassFile.FieldType.object "com/example/dataflow_to_dispatch/dataflowtodispatch/model/document/XmlElement")), Jvm.Cond.code ({ cls := "com/example/dataflow_to_dispatch/dataflowtodispatch/model/document/XmlElement", name := "linkAfter", desc := "(Lcom/example/dataflow_to_dispatch/dataflowtodispatch/model/document/XmlElement;Lcom/example/dataflow_to_dispatch/dataflowtodispatch/model/document/XmlElement;)V" } : Jvm.MethodName) prog_109_method_15_code (3 : Nat) (Option.none : Option Jvm.ClassFile.FieldType), Jvm.Cond.code ({ cls := "java/util/ArrayList", name := "add", desc := "(Ljava/lang/Object;)Z" } : Jvm.MethodName) jdk_38_method_25_code (2 : Nat) (Option.some Jvm.ClassFile.FieldType.boolean), Jvm.Cond.code ({ cls := "java/util/ArrayList", name := "add", desc := "(Ljava/lang/Object;[Ljava/lang/Object;I)V" } : Jvm.MethodName) jdk_38_method_24_code (4 : Nat) (Option.none : Option Jvm.ClassFile.FieldType), Jvm.Cond.code ({ cls := "java/util/ArrayList", name := "grow", desc := "()[Ljava/lang/Object;" } : Jvm.MethodName) jdk_38_method_7_code (1 : Nat) (Option.some (Jvm.ClassFile.FieldType.array (Jvm.ClassFile.FieldType.object "java/lang/Object"))), Jvm.Cond.code ({ cls := "java/util/ArrayList", name := "grow", desc := "(I)[Ljava/lang/Object;" } : Jvm.MethodName) jdk_38_method_6_code (4 : Nat) (Option.some (Jvm.ClassFile.FieldType.array (Jvm.ClassFile.FieldType.object "java/lang/Object"))), Jvm.Cond.code ({ cls := "java/lang/Math", name := "max", desc := "(II)I" } : Jvm.MethodName) jdk_29_method_65_code (2 : Nat) (Option.some Jvm.ClassFile.FieldType.int), Jvm.Cond.code ({ cls := "java/util/ArrayList", name := "get", desc := "(I)Ljava/lang/Object;" } : Jvm.MethodName) jdk_38_method_20_code (2 : Nat) (Option.some (Jvm.ClassFile.FieldType.object "java/lang/Object")), Jvm.Cond.code ({ cls := "java/util/Objects", name := "checkIndex", desc := "(II)I" } : Jvm.MethodName) jdk_31_method_17_code (2 : Nat) (Option.some Jvm.ClassFile.FieldType.int), Jvm.Cond.code ({ cls := "jdk/internal/util/Preconditions", name := "checkIndex", desc := "(IILjava/util/function/BiFunction;)I" } : Jvm.MethodName) jdk_41_method_11_code (3 : Nat) (Option.some Jvm.ClassFile.FieldType.int), Jvm.Cond.code ({ cls := "java/util/ArrayList", name := "elementData", desc := "(I)Ljava/lang/Object;" } : Jvm.MethodName) jdk_38_method_18_code (2 : Nat) (Option.some (Jvm.ClassFile.FieldType.object "java/lang/Object")), Jvm.Cond.code ({ cls := "com/example/dataflow_to_dispatch/dataflowtodispatch/model/document/XmlElement", name := "position", desc := "()I" } : Jvm.MethodName) prog_109_method_7_code (3 : Nat) (Option.some Jvm.ClassFile.FieldType.int), Jvm.Cond.code ({ cls := "java/lang/String", name := "equals", desc := "(Ljava/lang/Object;)Z" } : Jvm.MethodName) jdk_42_method_66_code (3 : Nat) (Option.some Jvm.ClassFile.FieldType.boolean), Jvm.Cond.code ({ cls := "java/lang/StringLatin1", name := "equals", desc := "([B[B)Z" } : Jvm.MethodName) jdk_43_method_13_code (3 : Nat) (Option.some Jvm.ClassFile.FieldType.boolean)]
set_option maxRecDepth 65536 in
theorem codes_eq : words1.filter isCode = codes1 := rfl
theorem w_codes : ∀ c ∈ words1.filter isCode, c.before args0 about1 = true := by
  rw [codes_eq]
  intro c hc
  simp only [codes1, List.mem_cons, List.not_mem_nil, or_false] at hc
  rcases hc with rfl | rfl | rfl | rfl | rfl | rfl | rfl | rfl | rfl | rfl | rfl | rfl | rfl | rfl | rfl | rfl | rfl | rfl | rfl | rfl | rfl | rfl | rfl | rfl | rfl | rfl
  · exact w_c0
  · exact w_c1
  · exact w_c2
  · exact w_c3
  · exact w_c4
  · exact w_c5
  · exact w_c6
  · exact w_c7
  · exact w_c8
  · exact w_c9
  · exact w_c10
  · exact w_c11
  · exact w_c12
  · exact w_c13
  · exact w_c14
  · exact w_c15
  · exact w_c16
  · exact w_c17
  · exact w_c18
  · exact w_c19
  · exact w_c20
  · exact w_c21
  · exact w_c22
  · exact w_c23
  · exact w_c24
  · exact w_c25
set_option maxRecDepth 65536 in
theorem w_t1 : (words1.take 24).all (fun c => isCode c || c.before args0 about1) = true := by decide +kernel
set_option maxRecDepth 65536 in
theorem w_t2 : ((words1.drop 24).take 24).all (fun c => isCode c || c.before args0 about1) = true := by decide +kernel
set_option maxRecDepth 65536 in
theorem w_t3 : (((words1.drop 24).drop 24).take 24).all (fun c => isCode c || c.before args0 about1) = true := by decide +kernel
set_option maxRecDepth 65536 in
theorem w_t4 : ((((words1.drop 24).drop 24).drop 24).take 24).all (fun c => isCode c || c.before args0 about1) = true := by decide +kernel
set_option maxRecDepth 65536 in
theorem w_t5 : (((((words1.drop 24).drop 24).drop 24).drop 24).take 24).all (fun c => isCode c || c.before args0 about1) = true := by decide +kernel
set_option maxRecDepth 65536 in
theorem w_t6 : ((((((words1.drop 24).drop 24).drop 24).drop 24).drop 24).take 24).all (fun c => isCode c || c.before args0 about1) = true := by decide +kernel
set_option maxRecDepth 65536 in
theorem w_t7 : ((((((words1.drop 24).drop 24).drop 24).drop 24).drop 24).drop 24).all (fun c => isCode c || c.before args0 about1) = true := by decide +kernel
theorem w_tables : (allAtoms (Jvm.Cond.code x code maxLocals ret :: tables_1)).before args0 about1 = true := by
  rw [allAtoms_all]
  show words1.all (fun c => c.before args0 about1) = true
  refine all_split ?_ w_codes
  rw [← List.take_append_drop 24 words1, List.all_append, w_t1, ← List.take_append_drop 24 (words1.drop 24), List.all_append, w_t2, ← List.take_append_drop 24 ((words1.drop 24).drop 24), List.all_append, w_t3, ← List.take_append_drop 24 (((words1.drop 24).drop 24).drop 24), List.all_append, w_t4, ← List.take_append_drop 24 ((((words1.drop 24).drop 24).drop 24).drop 24), List.all_append, w_t5, ← List.take_append_drop 24 (((((words1.drop 24).drop 24).drop 24).drop 24).drop 24), List.all_append, w_t6, w_t7]
  rfl
set_option maxRecDepth 65536 in
theorem w_rest : rest_1_c.before args0 about1 = true := by decide +kernel
set_option maxRecDepth 65536 in
theorem w_case : (Jvm.Cond.and given_1 narrow_1).before args0 about1 = true := by decide +kernel
theorem w_applies : (headSpec (Jvm.Cond.code x code maxLocals ret :: tables_1) room_1).applies x e0.platform about1 = true :=
  (Spec.applies_iff w_frames).mpr ⟨w_running, w_runnable, w_alone, w_named, w_hears, w_ripe, w_room, w_tables⟩
theorem atStart : AtStart classFile x code maxLocals ret World_1 tables_1 room_1 Calls_1 rest_1 Pre_1 launch0 p0 e0 about1 theMethod args0 below0 :=
  ⟨lists_1, trivial, launch0.admits_env _ _ _, launch0.least_env, fairChoices_fair.cas, fairChoices_fair.clock, w_frames, w_args, w_heap, w_applies, trivial, w_rest, w_case⟩
end start1
theorem witness_1 : WitnessClaimed_1 := ⟨start1.p0, start1.e0, start1.about1, start1.theMethod, start1.args0, start1.below0, start1.atStart⟩
end Jvm.Pilot.@@N@@
