import JvmDerived
import JvmDerived.Pilot.@@N@@Statement
import JvmDerived.Pilot.@@N@@Code
set_option linter.unusedVariables false
set_option linter.unusedSimpArgs false
namespace Jvm.OwnKit
open Sem ClassFile Op Lib Jvm.Stand Jvm.Free Jvm.LawKit Jvm.RoadKit
/-- from S the run comes to a state of which Φ holds -/
def Go (p : Program) (e : Env) (below : List Frame) (Φ : State → Prop) (S : State) : Prop := ∃ u, Steps p.tables e below S u ∧ Φ u
theorem Go.step {p : Program} {e : Env} {below : List Frame} {Φ : State → Prop} {S S' : State} (h : ∀ t, Steps p.tables e below S' t → Steps p.tables e below S t) (k : Go p e below Φ S') : Go p e below Φ S := by
  obtain ⟨u, q, r⟩ := k
  exact ⟨u, h u q, r⟩
theorem Go.trans {p : Program} {e : Env} {below : List Frame} {Φ : State → Prop} {S S' : State} (h : Steps p.tables e below S S') (k : Go p e below Φ S') : Go p e below Φ S := by
  obtain ⟨u, q, r⟩ := k
  exact ⟨u, Steps.trans h q, r⟩
theorem Go.here {p : Program} {e : Env} {below : List Frame} {Φ : State → Prop} {S : State} (k : Φ S) : Go p e below Φ S := ⟨S, Steps.refl _, k⟩
/-- the end of a body -/
def FinQ (below : List Frame) (s : State) (Q : Option Value → Heap → List Loc → Prop) (k n : Nat) (u : State) : Prop :=
  ∃ o, u.status = .running ∧ Ended u below o ∧ ∃ v L, o = .returned v ∧ Q v u.heap L ∧ FrameEnd s o u L k n
theorem Go.done {p : Program} {e : Env} {below : List Frame} {s : State} {Q : Option Value → Heap → List Loc → Prop} {k n : Nat} {S : State} (h : Go p e below (FinQ below s Q k n) S) :
    ∃ s₂ o, Steps p.tables e below S s₂ ∧ s₂.status = .running ∧ Ended s₂ below o ∧ ∃ v L, o = .returned v ∧ Q v s₂.heap L ∧ FrameEnd s o s₂ L k n := by
  obtain ⟨u, q, o, r1, r2, r3⟩ := h
  exact ⟨u, o, q, r1, r2, r3⟩
theorem nameIt {α : Type} (P : α → Prop) (x : α) (h : ∀ z, z = x → P z) : P x := h x rfl
section New
variable {p : Program} {l : Launch} {e : Env} {R : Room} {s : State} {m : MethodId} {args : Array Value} {below : List Frame} {meth : Method} {c : Code} {T : State} {locs : List Loc} {cells slots : Nat}
/-- the run stands at the frame F, in a heap h -/
def AtF (p : Program) (l : Launch) (e : Env) (R : Room) (s : State) (m : MethodId) (args : Array Value) (below : List Frame) (meth : Method) (c : Code) (n0 cells slots : Nat) (h : Heap) (F : JFrame) (u : State) : Prop :=
  ∃ T' locs', u = T'.setTop F ∧ Stand p l e R s m args below meth c T' locs' cells slots ∧ Fr n0 locs' ∧ T'.heap = h
theorem retG {pc : Nat} {Ls : Array Slot} {w : Value} {t : FieldType} {i : Instr} {rest : List Value} {Q : Option Value → Heap → List Loc → Prop} {k n : Nat}
    (X : Stand p l e R s m args below meth c T locs cells slots) (hx : p.tables.exec = Jvm.exec) (hlocks : meth.locks = false) (hret : meth.sig.returnType = some t) (hn : narrow t w = w)
    (hi : (i = .ireturn ∧ (t = .int ∨ t = .boolean ∨ t = .byte ∨ t = .char ∨ t = .short) ∧ ∃ z, w = .int z) ∨ (i = .lreturn ∧ t = .long ∧ ∃ z, w = .long z) ∨ (i = .dreturn ∧ t = .double ∧ ∃ z, w = .double z) ∨ (i = .freturn ∧ t = .float ∧ ∃ z, w = .float z) ∨ (i = .areturn ∧ t.isReference = true ∧ w.isRef = true))
    (hd : decode c.code pc = .ok (i, 1)) (hQ : Q (some w) T.heap locs) (hc : cells ≤ k) (hs : slots ≤ n) : Go p e below (FinQ below s Q k n) (T.setTop (mkF m pc Ls (w :: rest))) := by
  obtain ⟨fs, hr, hrun, hended, hW, hsame⟩ := X.leave (v := some w) (fun h => by rw [hret] at h; cases h) hlocks
  exact ⟨_, retOut X hx hret hn hi hd hr, _, hrun, hended, _, _, rfl, hQ, ⟨_, rfl⟩, hW, hsame.mono hc hs⟩
theorem retGI {pc : Nat} {Ls : Array Slot} {z : Int32} {rest : List Value} {Q : Option Value → Heap → List Loc → Prop} {k n : Nat}
    (X : Stand p l e R s m args below meth c T locs cells slots) (hx : p.tables.exec = Jvm.exec) (hlocks : meth.locks = false) (hret : meth.sig.returnType = some .int)
    (hd : decode c.code pc = .ok (.ireturn, 1)) (hQ : Q (some (.int z)) T.heap locs) (hc : cells ≤ k) (hs : slots ≤ n) : Go p e below (FinQ below s Q k n) (T.setTop (mkF m pc Ls (.int z :: rest))) :=
  retG X hx hlocks hret rfl (Or.inl ⟨rfl, Or.inl rfl, _, rfl⟩) hd hQ hc hs
theorem retGJ {pc : Nat} {Ls : Array Slot} {z : Int64} {rest : List Value} {Q : Option Value → Heap → List Loc → Prop} {k n : Nat}
    (X : Stand p l e R s m args below meth c T locs cells slots) (hx : p.tables.exec = Jvm.exec) (hlocks : meth.locks = false) (hret : meth.sig.returnType = some .long)
    (hd : decode c.code pc = .ok (.lreturn, 1)) (hQ : Q (some (.long z)) T.heap locs) (hc : cells ≤ k) (hs : slots ≤ n) : Go p e below (FinQ below s Q k n) (T.setTop (mkF m pc Ls (.long z :: rest))) :=
  retG X hx hlocks hret rfl (Or.inr (Or.inl ⟨rfl, rfl, _, rfl⟩)) hd hQ hc hs
theorem retGR {pc : Nat} {Ls : Array Slot} {a : Addr} {t : FieldType} {rest : List Value} {Q : Option Value → Heap → List Loc → Prop} {k n : Nat}
    (X : Stand p l e R s m args below meth c T locs cells slots) (hx : p.tables.exec = Jvm.exec) (hlocks : meth.locks = false) (hret : meth.sig.returnType = some t) (ht : t.isReference = true) (hn : narrow t (.ref a) = .ref a)
    (hd : decode c.code pc = .ok (.areturn, 1)) (hQ : Q (some (.ref a)) T.heap locs) (hc : cells ≤ k) (hs : slots ≤ n) : Go p e below (FinQ below s Q k n) (T.setTop (mkF m pc Ls (.ref a :: rest))) :=
  retG X hx hlocks hret hn (Or.inr (Or.inr (Or.inr (Or.inr ⟨rfl, ht, rfl⟩)))) hd hQ hc hs
theorem retGN {pc : Nat} {Ls : Array Slot} {z z' : Int32} {t : FieldType} {rest : List Value} {Q : Option Value → Heap → List Loc → Prop} {k n : Nat}
    (X : Stand p l e R s m args below meth c T locs cells slots) (hx : p.tables.exec = Jvm.exec) (hlocks : meth.locks = false) (hret : meth.sig.returnType = some t) (ht : t = .boolean ∨ t = .byte ∨ t = .char ∨ t = .short) (hz : nar t z = z')
    (hd : decode c.code pc = .ok (.ireturn, 1)) (hQ : Q (some (.int z')) T.heap locs) (hc : cells ≤ k) (hs : slots ≤ n) : Go p e below (FinQ below s Q k n) (T.setTop (mkF m pc Ls (.int z :: rest))) := by
  subst hz
  obtain ⟨fs, hr, hrun, hended, hW, hsame⟩ := X.leave (v := some (.int (nar t z))) (fun h => by rw [hret] at h; cases h) hlocks
  exact ⟨_, retN X hx hret ht hd hr, _, hrun, hended, _, _, rfl, hQ, ⟨_, rfl⟩, hW, hsame.mono hc hs⟩
theorem retGV {pc : Nat} {Ls : Array Slot} {Q : Option Value → Heap → List Loc → Prop} {k n : Nat}
    (X : Stand p l e R s m args below meth c T locs cells slots) (hx : p.tables.exec = Jvm.exec) (hlocks : meth.locks = false) (hret : meth.sig.returnType = none)
    (hd : decode c.code pc = .ok (.return_, 1)) (hQ : Q none T.heap locs) (hc : cells ≤ k) (hs : slots ≤ n) : Go p e below (FinQ below s Q k n) (T.setTop (mkF m pc Ls [])) := by
  obtain ⟨fs, hr, hrun, hended, hW, hsame⟩ := X.leave (v := none) (fun _ => rfl) hlocks
  exact ⟨_, X.returnOut hx hret hd hr, _, hrun, hended, _, _, rfl, hQ, ⟨_, rfl⟩, hW, hsame.mono hc hs⟩
end New
/-- a body that writes nothing and returns r -/
def QP (r : Value) (h0 : Heap) (n0 : Nat) (v : Option Value) (h : Heap) (L : List Loc) : Prop := v = some r ∧ Fr n0 L ∧ h = h0
def QV (h0 : Heap) (n0 : Nat) (v : Option Value) (h : Heap) (L : List Loc) : Prop := v = none ∧ Fr n0 L ∧ h = h0
def QAI (h0 : Heap) (n0 : Nat) (v : Option Value) (h : Heap) (L : List Loc) : Prop := (∃ z : Int32, v = some (.int z)) ∧ Fr n0 L ∧ h = h0
def QAJ (h0 : Heap) (n0 : Nat) (v : Option Value) (h : Heap) (L : List Loc) : Prop := (∃ z : Int64, v = some (.long z)) ∧ Fr n0 L ∧ h = h0
/-- a law: it returns r and writes nothing old -/
def QL (r : Value) (n0 : Nat) (v : Option Value) (h : Heap) (L : List Loc) : Prop := v = some r ∧ Fr n0 L
theorem remI (x y : Int32) : x - (x / y) * y = x % y := by
  rw [← Int32.toInt_inj, Int32.toInt_sub, Int32.toInt_mul, Int32.toInt_div, Int32.toInt_mod]
  have h := Int.tmod_add_mul_tdiv x.toInt y.toInt
  have r : (x.toInt.tmod y.toInt).bmod (2 ^ 32) = x.toInt.tmod y.toInt := by
    have := Int32.toInt_bmod (x % y)
    rwa [Int32.toInt_mod] at this
  rw [← r]
  have e : ((x.toInt.tdiv y.toInt).bmod (2 ^ 32) * y.toInt).bmod (2 ^ 32) = (x.toInt.tdiv y.toInt * y.toInt).bmod (2 ^ 32) := by simp
  rw [e, Int.sub_bmod_bmod]
  congr 1
  have := Int.mul_comm (x.toInt.tdiv y.toInt) y.toInt
  omega
theorem selP {s : State} {args : Array Value} {C : String} {x y z : MethodName} (hs : (Jvm.Cond.selects C x y).before args s = true) (hyz : y.cls = z.cls) (hp : s.PrivateAt z) (hi : (Jvm.Cond.instanceMethod z).before args s = true) (hz : z.cls ≠ "java/lang/invoke/MethodHandle" ∧ z.cls ≠ "java/lang/invoke/VarHandle") : (Jvm.Cond.selects z.cls z z).before args s = true := by
  obtain ⟨c, r, m, q1, q2, q3, q4, k, hk, hki⟩ := Cond.selects_spec hs
  have hc := findClass_of_methodNamed q3
  rw [hyz] at hc
  exact selects_self_of_private hc hk hki hp hi hz
theorem addI {x y : Int32} (h1 : -2147483648 ≤ x.toInt + y.toInt) (h2 : x.toInt + y.toInt < 2147483648) : (x + y).toInt = x.toInt + y.toInt := by have := c_iadd x y; have := rng32 (x + y); omega
theorem subI {x y : Int32} (h1 : -2147483648 ≤ x.toInt - y.toInt) (h2 : x.toInt - y.toInt < 2147483648) : (x - y).toInt = x.toInt - y.toInt := by have := c_isub x y; have := rng32 (x - y); omega
theorem mulI {x y : Int32} (h1 : -2147483648 ≤ x.toInt * y.toInt) (h2 : x.toInt * y.toInt < 2147483648) : (x * y).toInt = x.toInt * y.toInt := by have := c_imul x y; have := rng32 (x * y); omega
theorem addL {x y : Int64} (h1 : -9223372036854775808 ≤ x.toInt + y.toInt) (h2 : x.toInt + y.toInt < 9223372036854775808) : (x + y).toInt = x.toInt + y.toInt := by have := c_ladd x y; have := rng64 (x + y); omega
theorem subL {x y : Int64} (h1 : -9223372036854775808 ≤ x.toInt - y.toInt) (h2 : x.toInt - y.toInt < 9223372036854775808) : (x - y).toInt = x.toInt - y.toInt := by have := c_lsub x y; have := rng64 (x - y); omega
theorem mulL {x y : Int64} (h1 : -9223372036854775808 ≤ x.toInt * y.toInt) (h2 : x.toInt * y.toInt < 9223372036854775808) : (x * y).toInt = x.toInt * y.toInt := by have := c_lmul x y; have := rng64 (x * y); omega
theorem modI {x y : Int32} (d : Int) (hy : y.toInt = d) (hx : 0 ≤ x.toInt) : (x % y).toInt = x.toInt % d := by rw [Int32.toInt_mod, hy]; exact (tr _ _).1 hx
theorem modL {x y : Int64} (d : Int) (hy : y.toInt = d) (hx : 0 ≤ x.toInt) : (x % y).toInt = x.toInt % d := by rw [Int64.toInt_mod, hy]; exact (tr _ _).1 hx
end Jvm.OwnKit
namespace Jvm.OwnKit
open Sem ClassFile Op Lib Jvm.Stand Jvm.Free Jvm.LawKit Jvm.RoadKit
/-- an array: its length and its elements, by a function -/
def Ary (Z : State) (h : Heap) (a : Addr) (ty : FieldType) (n : Nat) (f : Nat → Value) : Prop := ∃ c : Cell, Arr Z h a c ty ∧ c.slots.size = n ∧ n < 2147483648 ∧ ∀ i, i < n → c.slots[i]? = some (f i)
def upA {α : Type} (f : Nat → α) (j : Nat) (v : α) : Nat → α := fun i => if i = j then v else f i
theorem upA_same {α : Type} (f : Nat → α) (j : Nat) (v : α) : upA f j v j = v := if_pos rfl
theorem upA_ne {α : Type} (f : Nat → α) {j i : Nat} (v : α) (h : i ≠ j) : upA f j v i = f i := if_neg h
section Facts
variable {Z : State} {h h' : Heap} {a b : Addr} {ty : FieldType} {n sl : Nat} {f : Nat → Value} {v : Value} {ws : List Addr} {j : Int32}
theorem Ary.lt (F : Ary Z h a ty n f) : a < h.size := by obtain ⟨c, A, -⟩ := F; exact A.lt
theorem Ary.ext (F : Ary Z h a ty n f) (E : Ext h h') : Ary Z h' a ty n f := by obtain ⟨c, A, r⟩ := F; exact ⟨c, A.ext E, r⟩
theorem Ary.other (F : Ary Z h b ty n f) (W : Wr h h' a sl v) (q : b ≠ a) : Ary Z h' b ty n f := by obtain ⟨c, A, r⟩ := F; exact ⟨c, A.other W q, r⟩
theorem Ary.keep (F : Ary Z h a ty n f) (K : Keep h h' ws) (q : a ∉ ws) : Ary Z h' a ty n f := by obtain ⟨c, A, r⟩ := F; exact ⟨c, ⟨K.2.1 a c A.1 q, A.2⟩, r⟩
theorem Ary.set (F : Ary Z h a ty n f) (W : Wr h h' a sl v) (q : sl < n) : Ary Z h' a ty n (upA f sl v) := by
  obtain ⟨c, A, hs, hn, hf⟩ := F
  obtain ⟨c', e1, -, -, e4, -, e6, e7⟩ := wr_at W A.1
  refine ⟨c', by rw [(e7 rfl).1]; exact A.same W, e4.trans hs, hn, fun i hi => ?_⟩
  by_cases e : i = sl
  · subst e; rw [(e7 rfl).2.1, upA_same]
  · rw [e6 i e, hf i hi, upA_ne _ _ e]
theorem Ary.setI {g : Nat → Int32} {x : Int32} (F : Ary Z h a ty n (fun i => .int (g i))) (W : Wr h h' a sl (.int x)) (q : sl < n) : Ary Z h' a ty n (fun i => .int (upA g sl x i)) := by
  have e : (fun i => Value.int (upA g sl x i)) = upA (fun i => Value.int (g i)) sl (.int x) := by funext i; unfold upA; split <;> rfl
  rw [e]; exact F.set W q
theorem Ary.setJ {g : Nat → Int64} {x : Int64} (F : Ary Z h a ty n (fun i => .long (g i))) (W : Wr h h' a sl (.long x)) (q : sl < n) : Ary Z h' a ty n (fun i => .long (upA g sl x i)) := by
  have e : (fun i => Value.long (upA g sl x i)) = upA (fun i => Value.long (g i)) sl (.long x) := by funext i; unfold upA; split <;> rfl
  rw [e]; exact F.set W q
theorem Ary.congr {f' : Nat → Value} (F : Ary Z h a ty n f) (q : ∀ i, i < n → f i = f' i) : Ary Z h a ty n f' := by
  obtain ⟨c, A, hs, hn, hf⟩ := F
  exact ⟨c, A, hs, hn, fun i hi => by rw [hf i hi, q i hi]⟩
theorem Ary.hin (F : Ary Z h a ty n f) (h0 : ¬ j < 0) (hj : j.toNatClampNeg < n) : ∃ cl, Arr Z h a cl ty ∧ ¬ (j < 0 ∨ cl.slots.size ≤ j.toNatClampNeg) ∧ cl.slots[j.toNatClampNeg]? = some (f j.toNatClampNeg) := by
  obtain ⟨c, A, hs, hn, hf⟩ := F
  exact ⟨c, A, fun q => q.elim h0 (fun r => by omega), hf _ hj⟩
theorem Ary.mk {k : ClassId} {z : Int32} (A : Arr Z h a (newA k ty z) ty) (q : ¬ z < 0) (hn : z.toNatClampNeg = n) : Ary Z h a ty n (fun _ => defaultValue ty) := by
  obtain ⟨c, A', -, hs, -, H, -⟩ := Arv.new A q
  have r := rng32 z
  refine ⟨c, A', hs.trans hn, ?_, fun i hi => ?_⟩
  · rw [← hn]; have := nat_of q; omega
  · have := H i (by rw [hs, hn]; exact hi); simpa using this
end Facts
theorem clamp_nat {k : Nat} (h : k < 2147483648) : (Int32.ofNat k).toNatClampNeg = k := by
  have e : (Int32.ofNat k).toInt = k := Int32.toInt_ofNat_of_lt h
  show (Int32.ofNat k).toInt.toNat = k
  rw [e]; rfl
theorem nat32 {k : Nat} (h : k < 2147483648) : k.toInt32.toInt = k := Int32.toInt_ofNat_of_lt h
section New
variable {p : Program} {l : Launch} {e : Env} {R : Room} {s : State} {m : MethodId} {args : Array Value} {below : List Frame} {meth : Method} {c : Code} {T : State} {locs : List Loc} {cells slots : Nat} {Z : State} {h : Heap} {a : Addr} {n : Nat} {rest : List Value} {g : JFrame} {j : Int32}
theorem ldI {f : Nat → Int32} (X : Stand p l e R s m args below meth c T locs cells slots) (hx : p.tables.exec = Jvm.exec) (hZ : Z.Warmed39 s.vm) (eT : T.heap = h) (F : Ary Z h a .int n (fun i => .int (f i))) (h0 : ¬ j < 0) (hj : j.toNatClampNeg < n)
    (hg : g.method = m) (hs : g.stack = .int j :: .ref a :: rest) (hd : decode c.code g.pc = .ok (.iaload, 1)) : ∀ target, Steps p.tables e below (T.setTop { g with pc := g.pc + 1, stack := .int (f j.toNatClampNeg) :: rest }) target → Steps p.tables e below (T.setTop g) target := fun t k => by
  obtain ⟨cl, A, hin, hat⟩ := F.hin h0 hj
  exact X.iaload hx (by rw [eT]; exact A.1) (State.isArrayOf_alike hZ.alike A.2.1) A.2.2 hin hat hg hs hd t k
theorem ldJ {f : Nat → Int64} (X : Stand p l e R s m args below meth c T locs cells slots) (hx : p.tables.exec = Jvm.exec) (hZ : Z.Warmed39 s.vm) (eT : T.heap = h) (F : Ary Z h a .long n (fun i => .long (f i))) (h0 : ¬ j < 0) (hj : j.toNatClampNeg < n)
    (hg : g.method = m) (hs : g.stack = .int j :: .ref a :: rest) (hd : decode c.code g.pc = .ok (.laload, 1)) : ∀ target, Steps p.tables e below (T.setTop { g with pc := g.pc + 1, stack := .long (f j.toNatClampNeg) :: rest }) target → Steps p.tables e below (T.setTop g) target := fun t k => by
  obtain ⟨cl, A, hin, hat⟩ := F.hin h0 hj
  exact X.laload hx (by rw [eT]; exact A.1) (State.isArrayOf_alike hZ.alike A.2.1) A.2.2 hin hat hg hs hd t k
theorem ldB {f : Nat → Int32} (X : Stand p l e R s m args below meth c T locs cells slots) (hx : p.tables.exec = Jvm.exec) (hZ : Z.Warmed39 s.vm) (eT : T.heap = h) (F : Ary Z h a .byte n (fun i => .int (f i))) (h0 : ¬ j < 0) (hj : j.toNatClampNeg < n)
    (hg : g.method = m) (hs : g.stack = .int j :: .ref a :: rest) (hd : decode c.code g.pc = .ok (.baload, 1)) : ∀ target, Steps p.tables e below (T.setTop { g with pc := g.pc + 1, stack := .int (f j.toNatClampNeg) :: rest }) target → Steps p.tables e below (T.setTop g) target := fun t k => by
  obtain ⟨cl, A, hin, hat⟩ := F.hin h0 hj
  exact X.baloadBytes hx (by rw [eT]; exact A.1) (State.isArrayOf_alike hZ.alike A.2.1) A.2.2 hin hat hg hs hd t k
theorem ldC {f : Nat → Int32} (X : Stand p l e R s m args below meth c T locs cells slots) (hx : p.tables.exec = Jvm.exec) (hZ : Z.Warmed39 s.vm) (eT : T.heap = h) (F : Ary Z h a .char n (fun i => .int (f i))) (h0 : ¬ j < 0) (hj : j.toNatClampNeg < n)
    (hg : g.method = m) (hs : g.stack = .int j :: .ref a :: rest) (hd : decode c.code g.pc = .ok (.caload, 1)) : ∀ target, Steps p.tables e below (T.setTop { g with pc := g.pc + 1, stack := .int (f j.toNatClampNeg) :: rest }) target → Steps p.tables e below (T.setTop g) target := fun t k => by
  obtain ⟨cl, A, hin, hat⟩ := F.hin h0 hj
  exact X.caload hx (by rw [eT]; exact A.1) (State.isArrayOf_alike hZ.alike A.2.1) A.2.2 hin hat hg hs hd t k
theorem ldR {f : Nat → Value} {ty : FieldType} (X : Stand p l e R s m args below meth c T locs cells slots) (hx : p.tables.exec = Jvm.exec) (hZ : Z.Warmed39 s.vm) (eT : T.heap = h) (F : Ary Z h a ty n f) (hty : ty.isReference = true) (h0 : ¬ j < 0) (hj : j.toNatClampNeg < n)
    (hg : g.method = m) (hs : g.stack = .int j :: .ref a :: rest) (hd : decode c.code g.pc = .ok (.aaload, 1)) : ∀ target, Steps p.tables e below (T.setTop { g with pc := g.pc + 1, stack := f j.toNatClampNeg :: rest }) target → Steps p.tables e below (T.setTop g) target := fun t k => by
  obtain ⟨cl, A, hin, hat⟩ := F.hin h0 hj
  exact X.aaload hx (by rw [eT]; exact A.1) (State.isArrayOf_alike hZ.alike A.2.1) hty A.2.2 hin hat hg hs hd t k
theorem lenA {f : Nat → Value} {ty : FieldType} (X : Stand p l e R s m args below meth c T locs cells slots) (hx : p.tables.exec = Jvm.exec) (hZ : Z.Warmed39 s.vm) (eT : T.heap = h) (F : Ary Z h a ty n f)
    (hg : g.method = m) (hs : g.stack = .ref a :: rest) (hd : decode c.code g.pc = .ok (.arraylength, 1)) : ∀ target, Steps p.tables e below (T.setTop { g with pc := g.pc + 1, stack := .int n.toInt32 :: rest }) target → Steps p.tables e below (T.setTop g) target := fun t k => by
  obtain ⟨cl, A, hs', hn, -⟩ := F
  subst hs'
  exact X.arraylength hx (by rw [eT]; exact A.1) (State.isArrayOf_alike hZ.alike A.2.1) hg hs hd t k
theorem lenAz {f : Nat → Value} {ty : FieldType} {z : Int32} (X : Stand p l e R s m args below meth c T locs cells slots) (hx : p.tables.exec = Jvm.exec) (hZ : Z.Warmed39 s.vm) (eT : T.heap = h) (F : Ary Z h a ty n f) (hz : n.toInt32 = z)
    (hg : g.method = m) (hs : g.stack = .ref a :: rest) (hd : decode c.code g.pc = .ok (.arraylength, 1)) : ∀ target, Steps p.tables e below (T.setTop { g with pc := g.pc + 1, stack := .int z :: rest }) target → Steps p.tables e below (T.setTop g) target := fun t k => by
  subst hz
  exact lenA X hx hZ eT F hg hs hd t k
end New
theorem len32 {z : Int32} (q : ¬ z < 0) : z.toNatClampNeg.toInt32 = z := by
  have r := rng32 z
  have e := nat_of q
  apply Int32.toInt_inj.mp
  rw [nat32 (by omega)]; omega
theorem succ32 (j : Nat) : Int32.ofNat j + 1 = Int32.ofNat (j + 1) := by rw [Int32.ofNat_add]; rfl
theorem of_lt {j n : Nat} (hj : j < 2147483648) (hn : n < 2147483648) : Int32.ofNat j < n.toInt32 ↔ j < n := by
  rw [Int32.lt_iff_toInt_lt, show (Int32.ofNat j).toInt = j from Int32.toInt_ofNat_of_lt hj, nat32 hn]; omega
theorem of_nn {j : Nat} (hj : j < 2147483648) : ¬ Int32.ofNat j < 0 := by
  rw [Int32.lt_iff_toInt_lt, show (Int32.ofNat j).toInt = j from Int32.toInt_ofNat_of_lt hj, show (0 : Int32).toInt = 0 by decide]; omega
theorem Ary.len {Z : State} {h : Heap} {a : Addr} {ty : FieldType} {n : Nat} {f : Nat → Value} (F : Ary Z h a ty n f) : n < 2147483648 := by obtain ⟨c, A, hs, hn, -⟩ := F; exact hn
end Jvm.OwnKit
namespace Jvm.OwnKit
open Sem ClassFile Op Lib Jvm.Stand Jvm.Free Jvm.LawKit Jvm.RoadKit
/-- the end of a body that may have interned -/
def FinW (below : List Frame) (s : State) (Q : Option Value → Heap → List Loc → Prop) (k n : Nat) (u : State) : Prop :=
  ∃ o, u.status = .running ∧ Ended u below o ∧ ∃ v L, o = .returned v ∧ Q v u.heap L ∧ ReturnedEndW s o u L k n
theorem Go.doneW {p : Program} {e : Env} {below : List Frame} {s : State} {Q : Option Value → Heap → List Loc → Prop} {k n : Nat} {S : State} (h : Go p e below (FinW below s Q k n) S) :
    ∃ s₂ o, Steps p.tables e below S s₂ ∧ s₂.status = .running ∧ Ended s₂ below o ∧ ∃ v L, o = .returned v ∧ Q v s₂.heap L ∧ ReturnedEndW s o s₂ L k n := by
  obtain ⟨u, q, o, r1, r2, r3⟩ := h
  exact ⟨u, o, q, r1, r2, r3⟩
section Wide
variable {p : Program} {l : Launch} {e : Env} {R : Room} {s : State} {vm0 : Vm} {m : MethodId} {args : Array Value} {below : List Frame} {meth : Method} {c : Code} {T : State} {locs : List Loc} {cells slots k0 : Nat}
theorem retW {pc : Nat} {Ls : Array Slot} {w : Value} {t : FieldType} {i : Instr} {rest : List Value} {Q : Option Value → Heap → List Loc → Prop} {k n : Nat}
    (X : Stand p l e R (s.setVm vm0) m args below meth c T locs cells slots) (hx : p.tables.exec = Jvm.exec) (hS : s.Since vm0 k0) (hk : k0 ≤ T.heap.size) (hlocks : meth.locks = false) (hret : meth.sig.returnType = some t) (hn : narrow t w = w)
    (hi : (i = .ireturn ∧ (t = .int ∨ t = .boolean ∨ t = .byte ∨ t = .char ∨ t = .short) ∧ ∃ z, w = .int z) ∨ (i = .lreturn ∧ t = .long ∧ ∃ z, w = .long z) ∨ (i = .dreturn ∧ t = .double ∧ ∃ z, w = .double z) ∨ (i = .freturn ∧ t = .float ∧ ∃ z, w = .float z) ∨ (i = .areturn ∧ t.isReference = true ∧ w.isRef = true))
    (hd : decode c.code pc = .ok (i, 1)) (hQ : Q (some w) T.heap locs) (hc : cells ≤ k) (hs : slots ≤ n) : Go p e below (FinW below s Q k n) (T.setTop (mkF m pc Ls (w :: rest))) := by
  obtain ⟨fs, hr, hrun, hended, e1, e2, e3, e4⟩ := X.leaveW hS hk (v := some w) (fun h => by rw [hret] at h; cases h) hlocks
  exact ⟨_, retOut X hx hret hn hi hd hr, _, hrun, hended, _, _, rfl, hQ, e1, e2, e3, e4.mono hc hs⟩
theorem retWR {pc : Nat} {Ls : Array Slot} {a : Addr} {t : FieldType} {rest : List Value} {Q : Option Value → Heap → List Loc → Prop} {k n : Nat}
    (X : Stand p l e R (s.setVm vm0) m args below meth c T locs cells slots) (hx : p.tables.exec = Jvm.exec) (hS : s.Since vm0 k0) (hk : k0 ≤ T.heap.size) (hlocks : meth.locks = false) (hret : meth.sig.returnType = some t) (ht : t.isReference = true) (hn : narrow t (.ref a) = .ref a)
    (hd : decode c.code pc = .ok (.areturn, 1)) (hQ : Q (some (.ref a)) T.heap locs) (hc : cells ≤ k) (hs : slots ≤ n) : Go p e below (FinW below s Q k n) (T.setTop (mkF m pc Ls (.ref a :: rest))) :=
  retW X hx hS hk hlocks hret hn (Or.inr (Or.inr (Or.inr (Or.inr ⟨rfl, ht, rfl⟩)))) hd hQ hc hs
theorem retWN {pc : Nat} {Ls : Array Slot} {z z' : Int32} {t : FieldType} {rest : List Value} {Q : Option Value → Heap → List Loc → Prop} {k n : Nat}
    (X : Stand p l e R (s.setVm vm0) m args below meth c T locs cells slots) (hx : p.tables.exec = Jvm.exec) (hS : s.Since vm0 k0) (hk : k0 ≤ T.heap.size) (hlocks : meth.locks = false) (hret : meth.sig.returnType = some t) (ht : t = .boolean ∨ t = .byte ∨ t = .char ∨ t = .short) (hz : nar t z = z')
    (hd : decode c.code pc = .ok (.ireturn, 1)) (hQ : Q (some (.int z')) T.heap locs) (hc : cells ≤ k) (hs : slots ≤ n) : Go p e below (FinW below s Q k n) (T.setTop (mkF m pc Ls (.int z :: rest))) := by
  subst hz
  obtain ⟨fs, hr, hrun, hended, e1, e2, e3, e4⟩ := X.leaveW hS hk (v := some (.int (nar t z))) (fun h => by rw [hret] at h; cases h) hlocks
  exact ⟨_, retN X hx hret ht hd hr, _, hrun, hended, _, _, rfl, hQ, e1, e2, e3, e4.mono hc hs⟩
theorem retWV {pc : Nat} {Ls : Array Slot} {Q : Option Value → Heap → List Loc → Prop} {k n : Nat}
    (X : Stand p l e R (s.setVm vm0) m args below meth c T locs cells slots) (hx : p.tables.exec = Jvm.exec) (hS : s.Since vm0 k0) (hk : k0 ≤ T.heap.size) (hlocks : meth.locks = false) (hret : meth.sig.returnType = none)
    (hd : decode c.code pc = .ok (.return_, 1)) (hQ : Q none T.heap locs) (hc : cells ≤ k) (hs : slots ≤ n) : Go p e below (FinW below s Q k n) (T.setTop (mkF m pc Ls [])) := by
  obtain ⟨fs, hr, hrun, hended, e1, e2, e3, e4⟩ := X.leaveW hS hk (v := none) (fun _ => rfl) hlocks
  exact ⟨_, X.returnOut hx hret hd hr, _, hrun, hended, _, _, rfl, hQ, e1, e2, e3, e4.mono hc hs⟩
theorem ibSame {Z : State} {vm vm' : Vm} {Ts : List String} (I : IB Z vm Ts) (h : vm'.interned = vm.interned) : IB Z vm' Ts := by
  obtain ⟨more, h1, h2⟩ := I
  exact ⟨more, h.trans h1, h2⟩
/-- a callee that reads a constant: what is booked at its start is known -/
theorem backOfSI {Z : State} {h : Heap} {a0 : Array Value} {Ts : List String} {y : MethodName} {bytes : ByteArray} {maxL : Nat} {ret : Option FieldType} {rm : Room} {len W : Nat} {as' : Array Value} {Q : Option Value → Heap → List Loc → Prop}
    (hM : MetFree l y (head1 [Cond.code y bytes maxL ret] rm) (fun a U => a = as' ∧ Z.Warmed39 U.vm ∧ U.heap = h ∧ IB Z U.vm Ts) (fun _ _ _ _ _ => True) (fun _ U o U' => ∃ v L, o = .returned v ∧ Q v U'.heap L ∧ ReturnedEndW U o U' L rm.cells rm.slots))
    (hZ : Z.Warmed39 s.vm) (I : IB Z s.vm Ts) (wc : (Cond.code y bytes maxL ret).before a0 Z = true) (wz : (Cond.initialized y.cls).before a0 Z = true) (hf : rm.frames + 1 ≤ R.frames) (hl : W + (maxL + 11) + rm.locals ≤ R.locals) :
    BackS l R p e below s args y len W (fun A a => a = as' ∧ A.U.heap = h ∧ A.cells + rm.cells ≤ R.cells ∧ A.slots + rm.slots ≤ R.slots)
      (fun A _ v B => ∃ L, Q v B.U.heap L ∧ B.locs = A.locs ++ L ∧ B.cells = A.cells + rm.cells ∧ B.slots = A.slots + rm.slots) := by
  refine BackS.of_freeW (bytes := bytes) (maxL := maxL) (ret := ret) (E := fun _ _ o t L k n => k = rm.cells ∧ n = rm.slots ∧ ∃ v, o = .returned v ∧ Q v t.heap L) hM hf hl ?_ ?_ (fun _ _ _ _ _ _ _ _ _ => trivial) ?_ ?_
  · intro m meth c A a Y hp
    have hU : Z.Warmed39 A.U.vm := wtrans hZ Y.warmed
    refine ⟨?_, mv hU wc, mv hU wz, hp.2.2.1, hp.2.2.2⟩
    show (Cond.and _ .tt).before a A.U = true
    rw [Cond.before_and, mv hU wc]; rfl
  · intro m meth c A a g mk Y hp
    exact ⟨hp.1, wtrans hZ Y.warmed, hp.2.1, ibSame I Y.warmed.interned_eq⟩
  · rintro _ _ _ _ ⟨v, L, h1, h2, h3⟩
    exact ⟨L, _, _, h3, rfl, rfl, v, h1, h2⟩
  · rintro m meth c A a g mk v t L k n Y hp _ _ ⟨e1, e2, v', e3, e4⟩
    cases e3; subst e1 e2
    exact ⟨L, e4, rfl, rfl, rfl⟩
end Wide
end Jvm.OwnKit
namespace Jvm.Pilot.@@N@@
open Jvm Jvm.ClassFile Sem Op Lib Jvm.Free Jvm.Stand Jvm.LawKit Jvm.RoadKit Jvm.OwnKit Bundle Jvm.Pilot.@@N@@.Jvm.D

def Ch (z : Int32) : Prop := nar .char z = z ∧ ¬ ((255 : Int32) < z)
theorem ch_rng {z : Int32} (h0 : 0 ≤ z.toInt) (h1 : z.toInt < 256) : Ch (z.toUInt32.toUInt16.toUInt32.toInt32) := by
  have h2 := c_i2c z
  have h3 := c_i2c (z.toUInt32.toUInt16.toUInt32.toInt32)
  refine ⟨?_, ?_⟩
  · show ((z.toUInt32.toUInt16.toUInt32.toInt32)).toUInt32.toUInt16.toUInt32.toInt32 = _
    rw [← Int32.toInt_inj]; omega
  · rw [Int32.lt_iff_toInt_lt, show (255 : Int32).toInt = 255 by decide]; omega
theorem ch_mk (p : Int32) : Ch ((p &&& (255 : Int32)).toUInt32.toUInt16.toUInt32.toInt32) := by
  have h1 := c_mask p 255 8 (by decide) (by decide)
  exact ch_rng (by omega) (by omega)
theorem k4 (p : Int32) (h0 : ¬ ((p &&& (3 : Int32)) = (0 : Int32))) (h1 : ¬ ((p &&& (3 : Int32)) = (1 : Int32))) (h2 : ¬ ((p &&& (3 : Int32)) = (2 : Int32))) (h3 : ¬ ((p &&& (3 : Int32)) = (3 : Int32))) : False := by
  have h := c_mask p 3 2 (by decide) (by decide)
  rw [← Int32.toInt_inj] at h0 h1 h2 h3
  rw [show (0 : Int32).toInt = 0 by decide] at h0
  rw [show (1 : Int32).toInt = 1 by decide] at h1
  rw [show (2 : Int32).toInt = 2 by decide] at h2
  rw [show (3 : Int32).toInt = 3 by decide] at h3
  omega

theorem wS {a0 : Array Value} {Z : State} (hw : ∀ d ∈ tables_1, d.before a0 Z = true) : ∀ a ∈ Bundle.stringAtoms, a.before a0 Z = true := by
  intro a ha
  simp only [Bundle.stringAtoms, List.mem_cons, List.not_mem_nil, or_false] at ha
  rcases ha with rfl | rfl | rfl | rfl | rfl | rfl | rfl
  · exact (hw _ (List.mem_of_getElem? (i := 7) rfl))
  · exact (hw _ (List.mem_of_getElem? (i := 6) rfl))
  · exact (hw _ (List.mem_of_getElem? (i := 23) rfl))
  · exact (hw _ (List.mem_of_getElem? (i := 33) rfl))
  · exact (hw _ (List.mem_of_getElem? (i := 31) rfl))
  · exact (hw _ (List.mem_of_getElem? (i := 44) rfl))
  · exact (hw _ (List.mem_of_getElem? (i := 45) rfl))
theorem d6_0 : decode jdk_52_method_21_code 0 = .ok (.iconst 0, 1) := by decide +kernel
theorem d6_1 : decode jdk_52_method_21_code 1 = .ok (.istore 5, 2) := by decide +kernel
theorem d6_3 : decode jdk_52_method_21_code 3 = .ok (.iload 5, 2) := by decide +kernel
theorem d6_5 : decode jdk_52_method_21_code 5 = .ok (.iload 4, 2) := by decide +kernel
theorem d6_7 : decode jdk_52_method_21_code 7 = .ok (.if_icmp .ge 37, 3) := by decide +kernel
theorem d6_10 : decode jdk_52_method_21_code 10 = .ok (.aload_n 0, 1) := by decide +kernel
theorem d6_11 : decode jdk_52_method_21_code 11 = .ok (.iload_n 1, 1) := by decide +kernel
theorem d6_12 : decode jdk_52_method_21_code 12 = .ok (.caload, 1) := by decide +kernel
theorem d6_13 : decode jdk_52_method_21_code 13 = .ok (.istore 6, 2) := by decide +kernel
theorem d6_15 : decode jdk_52_method_21_code 15 = .ok (.iload 6, 2) := by decide +kernel
theorem d6_17 : decode jdk_52_method_21_code 17 = .ok (.sipush 255, 3) := by decide +kernel
theorem d6_20 : decode jdk_52_method_21_code 20 = .ok (.if_icmp .le 6, 3) := by decide +kernel
theorem d6_26 : decode jdk_52_method_21_code 26 = .ok (.aload_n 2, 1) := by decide +kernel
theorem d6_27 : decode jdk_52_method_21_code 27 = .ok (.iload_n 3, 1) := by decide +kernel
theorem d6_28 : decode jdk_52_method_21_code 28 = .ok (.iload 6, 2) := by decide +kernel
theorem d6_30 : decode jdk_52_method_21_code 30 = .ok (.i2b, 1) := by decide +kernel
theorem d6_31 : decode jdk_52_method_21_code 31 = .ok (.bastore, 1) := by decide +kernel
theorem d6_32 : decode jdk_52_method_21_code 32 = .ok (.iinc 1 1, 3) := by decide +kernel
theorem d6_35 : decode jdk_52_method_21_code 35 = .ok (.iinc 3 1, 3) := by decide +kernel
theorem d6_38 : decode jdk_52_method_21_code 38 = .ok (.iinc 5 1, 3) := by decide +kernel
theorem d6_41 : decode jdk_52_method_21_code 41 = .ok (.goto (-38), 3) := by decide +kernel
theorem d6_44 : decode jdk_52_method_21_code 44 = .ok (.iload 4, 2) := by decide +kernel
theorem d6_46 : decode jdk_52_method_21_code 46 = .ok (.ireturn, 1) := by decide +kernel
theorem ef_6_1 (m : MethodId) (a1 : Addr) (a3 : Addr) : entryFrame m #[(.ref a1), (.int (0 : Int32)), (.ref a3), (.int (0 : Int32)), (.int (1 : Int32))] 7 = mkF m 0 #[.val (.ref a1), .val (.int (0 : Int32)), .val (.ref a3), .val (.int (0 : Int32)), .val (.int (1 : Int32)), .unset, .unset] [] := by first | (simp [entryFrame, mkF, argsToLocals, Value.category]; done) | rfl
theorem pn_0 : plainName "java/lang/StringUTF16" = true := by first | (simp [plainName, overriddenIn]; done) | decide +kernel
def Q6_1 (Z : State) (a1 : Addr) (a3 : Addr) (g_a1f : Nat → Int32) (g_a3f : Nat → Int32) (h0 : Heap) (n0 : Nat) (v : Option Value) (h : Heap) (L : List Loc) : Prop := v = some (.int (1 : Int32)) ∧ Fr n0 L ∧ Keep h0 h [a3] ∧ Ary Z h a3 .byte 1 (fun i => .int ((upA g_a3f 0 (nar .byte ((g_a1f 0).toInt8.toInt32))) i))
set_option maxRecDepth 65536 in
set_option maxHeartbeats 40000000 in
theorem rm6_1 (l : Launch) (Z : State) (a0 : Array Value) (hw : ∀ d ∈ tables_1, d.before a0 Z = true) (ws : List Jvm.Cond) (a1 : Addr) (a3 : Addr) (g_a1f : Nat → Int32) (g_a3f : Nat → Int32) (h0 : Heap) (n0 : Nat) (Z0 : n0 ≤ h0.size) (A_a1 : Ary Z h0 a1 .char 1 (fun i => .int (g_a1f i))) (A_a3 : Ary Z h0 a3 .byte 1 (fun i => .int (g_a3f i))) (hp20 : ¬ ((255 : Int32) < (g_a1f 0))) (g_a3 : n0 ≤ a3) (hne_a1_a3 : a1 ≠ a3) :
    MetFree l (⟨"java/lang/StringUTF16", "compress", "([CI[BII)I"⟩ : MethodName) (head1 (Jvm.Cond.code (⟨"java/lang/StringUTF16", "compress", "([CI[BII)I"⟩ : MethodName) jdk_52_method_21_code 7 (some .int) :: ws) ({ frames := 0, cells := 0, slots := 0, locals := 0 } : Room)) (fun a U => a = #[(.ref a1), (.int (0 : Int32)), (.ref a3), (.int (0 : Int32)), (.int (1 : Int32))] ∧ Z.Warmed39 U.vm ∧ U.heap = h0) (fun _ _ _ _ _ => True) (fun _ U o U' => ∃ v L, o = .returned v ∧ Q6_1 Z a1 a3 g_a1f g_a3f h0 n0 v U'.heap L ∧ FrameEnd U o U' L ({ frames := 0, cells := 0, slots := 0, locals := 0 } : Room).cells ({ frames := 0, cells := 0, slots := 0, locals := 0 } : Room).slots) := by
  refine MetFree.of_bodySF (plainFor_of_name pn_0) hisR ?_
  intro p e s m args below meth c s₁ Bd hml0 hP hK
  obtain ⟨rfl, hZ, hh⟩ := hP
  have hx := Bd.exec
  have hby := Bd.bytes
  have hml : c.maxLocals = 7 := hml0
  have hown : s.vm.findClass "java/lang/StringUTF16" = some m.cls := findClass_of_methodNamed Bd.named
  have hnm := (name_of_methodNamed Bd.named Bd.method).1
  have X0 : Stand p l e ({ frames := 0, cells := 0, slots := 0, locals := 0 } : Room) s m #[(.ref a1), (.int (0 : Int32)), (.ref a3), (.int (0 : Int32)), (.int (1 : Int32))] below meth c s₁ [] 0 0 := Stand.of_body Bd
  have e0 : s₁.heap = h0 := by rw [← hh, Bd.state]; rfl
  have N0 := Fr.nil n0
  refine Go.done (Go.step (fun t k => castTop (ef_6_1 m a1 a3) k) ?_)
  have KK0 : Keep h0 h0 [a3] := Keep.refl _ _
  show Go p e below _ (s₁.setTop (mkF m 0 #[.val (.ref a1), .val (.int (0 : Int32)), .val (.ref a3), .val (.int (0 : Int32)), .val (.int (1 : Int32)), .unset, .unset] []))
  refine Go.step (fun t k => XS.iconst X0.here hx rfl (hb hby d6_0)  k) ?_
  show Go p e below _ (s₁.setTop (mkF m 1 #[.val (.ref a1), .val (.int (0 : Int32)), .val (.ref a3), .val (.int (0 : Int32)), .val (.int (1 : Int32)), .unset, .unset] [(.int (0 : Int32))]))
  refine Go.step (fun t k => XS.istore X0.here hx rfl (hb hby d6_1) rfl (l' := #[.val (.ref a1), .val (.int (0 : Int32)), .val (.ref a3), .val (.int (0 : Int32)), .val (.int (1 : Int32)), .val (.int (0 : Int32)), .unset]) rfl k) ?_
  show Go p e below _ (s₁.setTop (mkF m 3 #[.val (.ref a1), .val (.int (0 : Int32)), .val (.ref a3), .val (.int (0 : Int32)), .val (.int (1 : Int32)), .val (.int (0 : Int32)), .unset] []))
  refine Go.step (fun t k => XS.iload X0.here hx rfl (hb hby d6_3) rfl k) ?_
  show Go p e below _ (s₁.setTop (mkF m 5 #[.val (.ref a1), .val (.int (0 : Int32)), .val (.ref a3), .val (.int (0 : Int32)), .val (.int (1 : Int32)), .val (.int (0 : Int32)), .unset] [(.int (0 : Int32))]))
  refine Go.step (fun t k => XS.iload X0.here hx rfl (hb hby d6_5) rfl k) ?_
  show Go p e below _ (s₁.setTop (mkF m 7 #[.val (.ref a1), .val (.int (0 : Int32)), .val (.ref a3), .val (.int (0 : Int32)), .val (.int (1 : Int32)), .val (.int (0 : Int32)), .unset] [(.int (1 : Int32)), (.int (0 : Int32))]))
  refine Go.step (fun t k => XS.icmpNo X0.here hx rfl (hb hby d6_7) rfl (tlt (by decide : (0 : Int32) < (1 : Int32))).2.1 k) ?_
  show Go p e below _ (s₁.setTop (mkF m 10 #[.val (.ref a1), .val (.int (0 : Int32)), .val (.ref a3), .val (.int (0 : Int32)), .val (.int (1 : Int32)), .val (.int (0 : Int32)), .unset] []))
  refine Go.step (fun t k => XS.aloadN X0.here hx rfl (hb hby d6_10) rfl rfl k) ?_
  show Go p e below _ (s₁.setTop (mkF m 11 #[.val (.ref a1), .val (.int (0 : Int32)), .val (.ref a3), .val (.int (0 : Int32)), .val (.int (1 : Int32)), .val (.int (0 : Int32)), .unset] [(.ref a1)]))
  refine Go.step (fun t k => XS.iloadN X0.here hx rfl (hb hby d6_11) rfl k) ?_
  show Go p e below _ (s₁.setTop (mkF m 12 #[.val (.ref a1), .val (.int (0 : Int32)), .val (.ref a3), .val (.int (0 : Int32)), .val (.int (1 : Int32)), .val (.int (0 : Int32)), .unset] [(.int (0 : Int32)), (.ref a1)]))
  refine Go.step (ldC X0 hx hZ e0 A_a1 (j := (0 : Int32)) (by decide) (by decide) (g := (mkF m 12 #[.val (.ref a1), .val (.int (0 : Int32)), .val (.ref a3), .val (.int (0 : Int32)), .val (.int (1 : Int32)), .val (.int (0 : Int32)), .unset] [(.int (0 : Int32)), (.ref a1)])) rfl rfl (hb hby d6_12)) ?_
  show Go p e below _ (s₁.setTop (mkF m 13 #[.val (.ref a1), .val (.int (0 : Int32)), .val (.ref a3), .val (.int (0 : Int32)), .val (.int (1 : Int32)), .val (.int (0 : Int32)), .unset] [(.int (g_a1f 0))]))
  refine Go.step (fun t k => XS.istore X0.here hx rfl (hb hby d6_13) rfl (l' := #[.val (.ref a1), .val (.int (0 : Int32)), .val (.ref a3), .val (.int (0 : Int32)), .val (.int (1 : Int32)), .val (.int (0 : Int32)), .val (.int (g_a1f 0))]) rfl k) ?_
  show Go p e below _ (s₁.setTop (mkF m 15 #[.val (.ref a1), .val (.int (0 : Int32)), .val (.ref a3), .val (.int (0 : Int32)), .val (.int (1 : Int32)), .val (.int (0 : Int32)), .val (.int (g_a1f 0))] []))
  refine Go.step (fun t k => XS.iload X0.here hx rfl (hb hby d6_15) rfl k) ?_
  show Go p e below _ (s₁.setTop (mkF m 17 #[.val (.ref a1), .val (.int (0 : Int32)), .val (.ref a3), .val (.int (0 : Int32)), .val (.int (1 : Int32)), .val (.int (0 : Int32)), .val (.int (g_a1f 0))] [(.int (g_a1f 0))]))
  refine Go.step (fun t k => XS.sipush X0.here hx rfl (hb hby d6_17)  k) ?_
  show Go p e below _ (s₁.setTop (mkF m 20 #[.val (.ref a1), .val (.int (0 : Int32)), .val (.ref a3), .val (.int (0 : Int32)), .val (.int (1 : Int32)), .val (.int (0 : Int32)), .val (.int (g_a1f 0))] [(.int (255 : Int32)), (.int (g_a1f 0))]))
  refine Go.step (fun t k => XS.icmpYes X0.here hx rfl (pc0 := 20) (pc' := 26) rfl (hb hby d6_20) rfl (flt hp20).2.2.2 (by decide) (by decide) k) ?_
  show Go p e below _ (s₁.setTop (mkF m 26 #[.val (.ref a1), .val (.int (0 : Int32)), .val (.ref a3), .val (.int (0 : Int32)), .val (.int (1 : Int32)), .val (.int (0 : Int32)), .val (.int (g_a1f 0))] []))
  refine Go.step (fun t k => XS.aloadN X0.here hx rfl (hb hby d6_26) rfl rfl k) ?_
  show Go p e below _ (s₁.setTop (mkF m 27 #[.val (.ref a1), .val (.int (0 : Int32)), .val (.ref a3), .val (.int (0 : Int32)), .val (.int (1 : Int32)), .val (.int (0 : Int32)), .val (.int (g_a1f 0))] [(.ref a3)]))
  refine Go.step (fun t k => XS.iloadN X0.here hx rfl (hb hby d6_27) rfl k) ?_
  show Go p e below _ (s₁.setTop (mkF m 28 #[.val (.ref a1), .val (.int (0 : Int32)), .val (.ref a3), .val (.int (0 : Int32)), .val (.int (1 : Int32)), .val (.int (0 : Int32)), .val (.int (g_a1f 0))] [(.int (0 : Int32)), (.ref a3)]))
  refine Go.step (fun t k => XS.iload X0.here hx rfl (hb hby d6_28) rfl k) ?_
  show Go p e below _ (s₁.setTop (mkF m 30 #[.val (.ref a1), .val (.int (0 : Int32)), .val (.ref a3), .val (.int (0 : Int32)), .val (.int (1 : Int32)), .val (.int (0 : Int32)), .val (.int (g_a1f 0))] [(.int (g_a1f 0)), (.int (0 : Int32)), (.ref a3)]))
  refine Go.step (fun t k => XS.i2b X0.here hx rfl (hb hby d6_30) rfl k) ?_
  show Go p e below _ (s₁.setTop (mkF m 31 #[.val (.ref a1), .val (.int (0 : Int32)), .val (.ref a3), .val (.int (0 : Int32)), .val (.int (1 : Int32)), .val (.int (0 : Int32)), .val (.int (g_a1f 0))] [(.int ((g_a1f 0).toInt8.toInt32)), (.int (0 : Int32)), (.ref a3)]))
  obtain ⟨cl6, Ar6, in6, -⟩ := A_a3.hin (j := (0 : Int32)) (by decide) (by decide)
  obtain ⟨T6, h6, X6, e6, W6, st6⟩ := stB X0 hx hZ e0 Ar6 in6 (g := (mkF m 31 #[.val (.ref a1), .val (.int (0 : Int32)), .val (.ref a3), .val (.int (0 : Int32)), .val (.int (1 : Int32)), .val (.int (0 : Int32)), .val (.int (g_a1f 0))] [(.int ((g_a1f 0).toInt8.toInt32)), (.int (0 : Int32)), (.ref a3)])) rfl rfl (hb hby d6_31)
  refine Go.step st6 ?_
  have N6 := Fr.snoc X6 N0 g_a3
  have A_a1_6 := A_a1.other W6 hne_a1_a3
  have Z6 := Nat.le_trans Z0 (Keep.of_wr W6).1
  have KK6 : Keep h0 h6 [a3] := KK0.wr W6 (Or.inl (by simp))
  clear A_a1 Z0 KK0
  have A_a3_6 : Ary Z h6 a3 .byte 1 (fun i => .int ((upA g_a3f 0 (nar .byte ((g_a1f 0).toInt8.toInt32))) i)) := A_a3.setI W6 (by decide)
  show Go p e below _ (T6.setTop (mkF m 32 #[.val (.ref a1), .val (.int (0 : Int32)), .val (.ref a3), .val (.int (0 : Int32)), .val (.int (1 : Int32)), .val (.int (0 : Int32)), .val (.int (g_a1f 0))] []))
  refine Go.step (fun t k => XS.iinc X6.here hx rfl (hb hby d6_32) rfl (l' := #[.val (.ref a1), .val (.int (1 : Int32)), .val (.ref a3), .val (.int (0 : Int32)), .val (.int (1 : Int32)), .val (.int (0 : Int32)), .val (.int (g_a1f 0))]) rfl k) ?_
  show Go p e below _ (T6.setTop (mkF m 35 #[.val (.ref a1), .val (.int (1 : Int32)), .val (.ref a3), .val (.int (0 : Int32)), .val (.int (1 : Int32)), .val (.int (0 : Int32)), .val (.int (g_a1f 0))] []))
  refine Go.step (fun t k => XS.iinc X6.here hx rfl (hb hby d6_35) rfl (l' := #[.val (.ref a1), .val (.int (1 : Int32)), .val (.ref a3), .val (.int (1 : Int32)), .val (.int (1 : Int32)), .val (.int (0 : Int32)), .val (.int (g_a1f 0))]) rfl k) ?_
  show Go p e below _ (T6.setTop (mkF m 38 #[.val (.ref a1), .val (.int (1 : Int32)), .val (.ref a3), .val (.int (1 : Int32)), .val (.int (1 : Int32)), .val (.int (0 : Int32)), .val (.int (g_a1f 0))] []))
  refine Go.step (fun t k => XS.iinc X6.here hx rfl (hb hby d6_38) rfl (l' := #[.val (.ref a1), .val (.int (1 : Int32)), .val (.ref a3), .val (.int (1 : Int32)), .val (.int (1 : Int32)), .val (.int (1 : Int32)), .val (.int (g_a1f 0))]) rfl k) ?_
  show Go p e below _ (T6.setTop (mkF m 41 #[.val (.ref a1), .val (.int (1 : Int32)), .val (.ref a3), .val (.int (1 : Int32)), .val (.int (1 : Int32)), .val (.int (1 : Int32)), .val (.int (g_a1f 0))] []))
  refine Go.step (fun t k => XS.goto X6.here hx rfl (pc0 := 41) (pc' := 3) rfl (hb hby d6_41) (by decide) (by decide) k) ?_
  show Go p e below _ (T6.setTop (mkF m 3 #[.val (.ref a1), .val (.int (1 : Int32)), .val (.ref a3), .val (.int (1 : Int32)), .val (.int (1 : Int32)), .val (.int (1 : Int32)), .val (.int (g_a1f 0))] []))
  refine Go.step (fun t k => XS.iload X6.here hx rfl (hb hby d6_3) rfl k) ?_
  show Go p e below _ (T6.setTop (mkF m 5 #[.val (.ref a1), .val (.int (1 : Int32)), .val (.ref a3), .val (.int (1 : Int32)), .val (.int (1 : Int32)), .val (.int (1 : Int32)), .val (.int (g_a1f 0))] [(.int (1 : Int32))]))
  refine Go.step (fun t k => XS.iload X6.here hx rfl (hb hby d6_5) rfl k) ?_
  show Go p e below _ (T6.setTop (mkF m 7 #[.val (.ref a1), .val (.int (1 : Int32)), .val (.ref a3), .val (.int (1 : Int32)), .val (.int (1 : Int32)), .val (.int (1 : Int32)), .val (.int (g_a1f 0))] [(.int (1 : Int32)), (.int (1 : Int32))]))
  refine Go.step (fun t k => XS.icmpYes X6.here hx rfl (pc0 := 7) (pc' := 44) rfl (hb hby d6_7) rfl (flt (by decide : ¬ ((1 : Int32) < (1 : Int32)))).2.1 (by decide) (by decide) k) ?_
  show Go p e below _ (T6.setTop (mkF m 44 #[.val (.ref a1), .val (.int (1 : Int32)), .val (.ref a3), .val (.int (1 : Int32)), .val (.int (1 : Int32)), .val (.int (1 : Int32)), .val (.int (g_a1f 0))] []))
  refine Go.step (fun t k => XS.iload X6.here hx rfl (hb hby d6_44) rfl k) ?_
  show Go p e below _ (T6.setTop (mkF m 46 #[.val (.ref a1), .val (.int (1 : Int32)), .val (.ref a3), .val (.int (1 : Int32)), .val (.int (1 : Int32)), .val (.int (1 : Int32)), .val (.int (g_a1f 0))] [(.int (1 : Int32))]))
  refine retGI X6 hx Bd.notSynchronized Bd.returns (hb hby d6_46) ?_ (by decide) (by decide)
  show Q6_1 Z a1 a3 g_a1f g_a3f h0 n0 _ T6.heap _
  rw [e6]
  exact ⟨rfl, N6, KK6, A_a3_6⟩
theorem d5_0 : decode jdk_52_method_16_code 0 = .ok (.iload_n 2, 1) := by decide +kernel
theorem d5_1 : decode jdk_52_method_16_code 1 = .ok (.newarray .byte, 2) := by decide +kernel
theorem d5_3 : decode jdk_52_method_16_code 3 = .ok (.astore_n 3, 1) := by decide +kernel
theorem d5_4 : decode jdk_52_method_16_code 4 = .ok (.aload_n 0, 1) := by decide +kernel
theorem d5_5 : decode jdk_52_method_16_code 5 = .ok (.iload_n 1, 1) := by decide +kernel
theorem d5_6 : decode jdk_52_method_16_code 6 = .ok (.aload_n 3, 1) := by decide +kernel
theorem d5_7 : decode jdk_52_method_16_code 7 = .ok (.iconst 0, 1) := by decide +kernel
theorem d5_8 : decode jdk_52_method_16_code 8 = .ok (.iload_n 2, 1) := by decide +kernel
theorem d5_9 : decode jdk_52_method_16_code 9 = .ok (.invokestatic 115, 3) := by decide +kernel
theorem pd_0 : parseMethodDescriptor "([CI[BII)I" = some ⟨[(.array .char), .int, (.array .byte), .int, .int], some .int⟩ := by decide +kernel
theorem d5_12 : decode jdk_52_method_16_code 12 = .ok (.istore 4, 2) := by decide +kernel
theorem d5_14 : decode jdk_52_method_16_code 14 = .ok (.iload 4, 2) := by decide +kernel
theorem d5_16 : decode jdk_52_method_16_code 16 = .ok (.iload_n 2, 1) := by decide +kernel
theorem d5_17 : decode jdk_52_method_16_code 17 = .ok (.if_icmp .eq 40, 3) := by decide +kernel
theorem d5_57 : decode jdk_52_method_16_code 57 = .ok (.aload_n 3, 1) := by decide +kernel
theorem d5_58 : decode jdk_52_method_16_code 58 = .ok (.areturn, 1) := by decide +kernel
theorem ef_5_1 (m : MethodId) (a1 : Addr) : entryFrame m #[(.ref a1), (.int (0 : Int32)), (.int (1 : Int32))] 6 = mkF m 0 #[.val (.ref a1), .val (.int (0 : Int32)), .val (.int (1 : Int32)), .unset, .unset, .unset] [] := by first | (simp [entryFrame, mkF, argsToLocals, Value.category]; done) | rfl
def Q5_1 (Z : State) (a1 : Addr) (g_a1f : Nat → Int32) (h0 : Heap) (n0 : Nat) (v : Option Value) (h : Heap) (L : List Loc) : Prop := ∃ (b4 : Addr), v = some (.ref b4) ∧ Fr n0 L ∧ Keep h0 h [] ∧ h0.size ≤ b4 ∧ Ary Z h b4 .byte 1 (fun i => .int ((upA (fun _ => (0 : Int32)) 0 (nar .byte ((g_a1f 0).toInt8.toInt32))) i))
set_option maxRecDepth 65536 in
set_option maxHeartbeats 40000000 in
theorem rm5_1 (l : Launch) (Z : State) (a0 : Array Value) (hw : ∀ d ∈ tables_1, d.before a0 Z = true) (ws : List Jvm.Cond) (a1 : Addr) (g_a1f : Nat → Int32) (h0 : Heap) (n0 : Nat) (Z0 : n0 ≤ h0.size) (A_a1 : Ary Z h0 a1 .char 1 (fun i => .int (g_a1f i))) (hp9_hp20 : ¬ ((255 : Int32) < (g_a1f 0))) :
    MetFree l (⟨"java/lang/StringUTF16", "compress", "([CII)[B"⟩ : MethodName) (head1 (Jvm.Cond.code (⟨"java/lang/StringUTF16", "compress", "([CII)[B"⟩ : MethodName) jdk_52_method_16_code 6 (some (.array .byte)) :: ws) ({ frames := 1, cells := 1, slots := 1, locals := 18 } : Room)) (fun a U => a = #[(.ref a1), (.int (0 : Int32)), (.int (1 : Int32))] ∧ Z.Warmed39 U.vm ∧ U.heap = h0) (fun _ _ _ _ _ => True) (fun _ U o U' => ∃ v L, o = .returned v ∧ Q5_1 Z a1 g_a1f h0 n0 v U'.heap L ∧ FrameEnd U o U' L ({ frames := 1, cells := 1, slots := 1, locals := 18 } : Room).cells ({ frames := 1, cells := 1, slots := 1, locals := 18 } : Room).slots) := by
  refine MetFree.of_bodySF (plainFor_of_name pn_0) hisR ?_
  intro p e s m args below meth c s₁ Bd hml0 hP hK
  obtain ⟨rfl, hZ, hh⟩ := hP
  have hx := Bd.exec
  have hby := Bd.bytes
  have hml : c.maxLocals = 6 := hml0
  have hown : s.vm.findClass "java/lang/StringUTF16" = some m.cls := findClass_of_methodNamed Bd.named
  have hnm := (name_of_methodNamed Bd.named Bd.method).1
  have X0 : Stand p l e ({ frames := 1, cells := 1, slots := 1, locals := 18 } : Room) s m #[(.ref a1), (.int (0 : Int32)), (.int (1 : Int32))] below meth c s₁ [] 0 0 := Stand.of_body Bd
  have e0 : s₁.heap = h0 := by rw [← hh, Bd.state]; rfl
  have N0 := Fr.nil n0
  refine Go.done (Go.step (fun t k => castTop (ef_5_1 m a1) k) ?_)
  have KK0 : Keep h0 h0 [] := Keep.refl _ _
  show Go p e below _ (s₁.setTop (mkF m 0 #[.val (.ref a1), .val (.int (0 : Int32)), .val (.int (1 : Int32)), .unset, .unset, .unset] []))
  refine Go.step (fun t k => XS.iloadN X0.here hx rfl (hb hby d5_0) rfl k) ?_
  show Go p e below _ (s₁.setTop (mkF m 1 #[.val (.ref a1), .val (.int (0 : Int32)), .val (.int (1 : Int32)), .unset, .unset, .unset] [(.int (1 : Int32))]))
  obtain ⟨T4, h4, k4, X4, e4, E4, A4, st4⟩ := newP X0 hx hZ (hw _ (List.mem_of_getElem? (i := 23) rfl)) e0 (g := (mkF m 1 #[.val (.ref a1), .val (.int (0 : Int32)), .val (.int (1 : Int32)), .unset, .unset, .unset] [(.int (1 : Int32))])) rfl (hb hby d5_1) rfl (by decide) (cap := 1) (by decide) (by decide) (by decide) (by decide)
  obtain ⟨b4, g4⟩ : ∃ z, z = h0.size := ⟨_, rfl⟩
  rw [← g4] at A4 st4
  have g_b4 : n0 ≤ b4 := Nat.le_trans Z0 (Nat.le_of_eq g4.symm)
  have sz_b4 : h0.size ≤ b4 := Nat.le_trans KK0.1 (Nat.le_of_eq g4.symm)
  have ne_a1_b4 : a1 ≠ b4 := Nat.ne_of_lt (Nat.lt_of_lt_of_le A_a1.lt (Nat.le_of_eq g4.symm))
  refine Go.step st4 ?_
  have A_a1_4 := A_a1.ext E4
  have Z4 := Nat.le_trans Z0 E4.1
  have KK4 : Keep h0 h4 [] := KK0.ext E4
  clear A_a1 Z0 KK0 E4
  have A_b4_4 : Ary Z h4 b4 .byte 1 (fun i => .int ((fun _ => (0 : Int32)) i)) := Ary.mk A4 (by decide) (by decide)
  replace X4 : Stand p l e ({ frames := 1, cells := 1, slots := 1, locals := 18 } : Room) s m #[(.ref a1), (.int (0 : Int32)), (.int (1 : Int32))] below meth c T4 _ 1 1 := X4
  show Go p e below _ (T4.setTop (mkF m 3 #[.val (.ref a1), .val (.int (0 : Int32)), .val (.int (1 : Int32)), .unset, .unset, .unset] [(.ref b4)]))
  refine Go.step (fun t k => XS.astoreN X4.here hx rfl (hb hby d5_3) rfl rfl (l' := #[.val (.ref a1), .val (.int (0 : Int32)), .val (.int (1 : Int32)), .val (.ref b4), .unset, .unset]) rfl k) ?_
  show Go p e below _ (T4.setTop (mkF m 4 #[.val (.ref a1), .val (.int (0 : Int32)), .val (.int (1 : Int32)), .val (.ref b4), .unset, .unset] []))
  refine Go.step (fun t k => XS.aloadN X4.here hx rfl (hb hby d5_4) rfl rfl k) ?_
  show Go p e below _ (T4.setTop (mkF m 5 #[.val (.ref a1), .val (.int (0 : Int32)), .val (.int (1 : Int32)), .val (.ref b4), .unset, .unset] [(.ref a1)]))
  refine Go.step (fun t k => XS.iloadN X4.here hx rfl (hb hby d5_5) rfl k) ?_
  show Go p e below _ (T4.setTop (mkF m 6 #[.val (.ref a1), .val (.int (0 : Int32)), .val (.int (1 : Int32)), .val (.ref b4), .unset, .unset] [(.int (0 : Int32)), (.ref a1)]))
  refine Go.step (fun t k => XS.aloadN X4.here hx rfl (hb hby d5_6) rfl rfl k) ?_
  show Go p e below _ (T4.setTop (mkF m 7 #[.val (.ref a1), .val (.int (0 : Int32)), .val (.int (1 : Int32)), .val (.ref b4), .unset, .unset] [(.ref b4), (.int (0 : Int32)), (.ref a1)]))
  refine Go.step (fun t k => XS.iconst X4.here hx rfl (hb hby d5_7)  k) ?_
  show Go p e below _ (T4.setTop (mkF m 8 #[.val (.ref a1), .val (.int (0 : Int32)), .val (.int (1 : Int32)), .val (.ref b4), .unset, .unset] [(.int (0 : Int32)), (.ref b4), (.int (0 : Int32)), (.ref a1)]))
  refine Go.step (fun t k => XS.iloadN X4.here hx rfl (hb hby d5_8) rfl k) ?_
  show Go p e below _ (T4.setTop (mkF m 9 #[.val (.ref a1), .val (.int (0 : Int32)), .val (.int (1 : Int32)), .val (.ref b4), .unset, .unset] [(.int (1 : Int32)), (.int (0 : Int32)), (.ref b4), (.int (0 : Int32)), (.ref a1)]))
  obtain ⟨_, _, ⟨T5, L5, k5, n5⟩, -, X5, ⟨Lc5, hQ5, l5, y5, z5⟩, st5⟩ := Jvm.LawKit.callS X4 hx (y := (⟨"java/lang/StringUTF16", "compress", "([CI[BII)I"⟩ : MethodName)) hown (mvT hZ (hw _ (List.mem_of_getElem? (i := 24) rfl))) (mvT hZ (hw _ (List.mem_of_getElem? (i := 25) rfl))) (mvT hZ (hw _ (List.mem_of_getElem? (i := 21) rfl))) (mvT hZ (hw _ (List.mem_of_getElem? (i := 26) rfl))) (by decide) (backOf (W := 0) (rm6_1 l Z a0 hw [] a1 b4 g_a1f (fun _ => (0 : Int32)) h4 n0 Z4 A_a1_4 A_b4_4 hp9_hp20 g_b4 ne_a1_b4) hZ (hw _ (List.mem_of_getElem? (i := 26) rfl)) (hw _ (List.mem_of_getElem? (i := 21) rfl)) (by decide) (by decide)) (g := (mkF m 9 #[.val (.ref a1), .val (.int (0 : Int32)), .val (.int (1 : Int32)), .val (.ref b4), .unset, .unset] [(.int (1 : Int32)), (.int (0 : Int32)), (.ref b4), (.int (0 : Int32)), (.ref a1)])) rfl (by rw [hml]; rfl) (argsL := [(.ref a1), (.int (0 : Int32)), (.ref b4), (.int (0 : Int32)), (.int (1 : Int32))]) (rest := []) (lenOf pd_0 rfl) rfl (by show 2 * 0 + _ ≤ _; exact Nat.le_of_eq rfl) (hb hby d5_9) (fun _ _ => ⟨rfl, e4, (by decide : 1 + 0 ≤ _), (by decide : 1 + 0 ≤ _)⟩)
  dsimp only [Pt.U, Pt.locs, Pt.cells, Pt.slots] at X5 l5 y5 z5 st5 hQ5
  replace y5 : k5 = 1 := y5
  replace z5 : n5 = 1 := z5
  subst y5 z5
  obtain ⟨rfl, N5q, K5, Q5_0⟩ := hQ5
  have N5 : Fr n0 L5 := Eq.mpr (congrArg (Fr n0) l5) (Fr.app N0 N5q)
  have A_a1_5 := A_a1_4.keep K5 (ninS ne_a1_b4 nin0)
  have Z5 := Nat.le_trans Z4 K5.1
  have KK5 : Keep h0 T5.heap [] := KK4.trans K5 (allS (Or.inr sz_b4) all0)
  clear A_a1_4 Z4 KK4 K5
  refine Go.step st5 ?_
  show Go p e below _ (T5.setTop (mkF m 12 #[.val (.ref a1), .val (.int (0 : Int32)), .val (.int (1 : Int32)), .val (.ref b4), .unset, .unset] [(.int (1 : Int32))]))
  refine Go.step (fun t k => XS.istore X5.here hx rfl (hb hby d5_12) rfl (l' := #[.val (.ref a1), .val (.int (0 : Int32)), .val (.int (1 : Int32)), .val (.ref b4), .val (.int (1 : Int32)), .unset]) rfl k) ?_
  show Go p e below _ (T5.setTop (mkF m 14 #[.val (.ref a1), .val (.int (0 : Int32)), .val (.int (1 : Int32)), .val (.ref b4), .val (.int (1 : Int32)), .unset] []))
  refine Go.step (fun t k => XS.iload X5.here hx rfl (hb hby d5_14) rfl k) ?_
  show Go p e below _ (T5.setTop (mkF m 16 #[.val (.ref a1), .val (.int (0 : Int32)), .val (.int (1 : Int32)), .val (.ref b4), .val (.int (1 : Int32)), .unset] [(.int (1 : Int32))]))
  refine Go.step (fun t k => XS.iloadN X5.here hx rfl (hb hby d5_16) rfl k) ?_
  show Go p e below _ (T5.setTop (mkF m 17 #[.val (.ref a1), .val (.int (0 : Int32)), .val (.int (1 : Int32)), .val (.ref b4), .val (.int (1 : Int32)), .unset] [(.int (1 : Int32)), (.int (1 : Int32))]))
  refine Go.step (fun t k => XS.icmpYes X5.here hx rfl (pc0 := 17) (pc' := 57) rfl (hb hby d5_17) rfl (teq (rfl : (1 : Int32) = (1 : Int32))).1 (by decide) (by decide) k) ?_
  show Go p e below _ (T5.setTop (mkF m 57 #[.val (.ref a1), .val (.int (0 : Int32)), .val (.int (1 : Int32)), .val (.ref b4), .val (.int (1 : Int32)), .unset] []))
  refine Go.step (fun t k => XS.aloadN X5.here hx rfl (hb hby d5_57) rfl rfl k) ?_
  show Go p e below _ (T5.setTop (mkF m 58 #[.val (.ref a1), .val (.int (0 : Int32)), .val (.int (1 : Int32)), .val (.ref b4), .val (.int (1 : Int32)), .unset] [(.ref b4)]))
  refine retGR X5 hx Bd.notSynchronized Bd.returns rfl rfl (hb hby d5_58) ?_ (by decide) (by decide)
  show Q5_1 Z a1 g_a1f h0 n0 _ T5.heap _
  exact ⟨b4, rfl, N5, KK5, sz_b4, Q5_0⟩
theorem d7_0 : decode jdk_52_method_15_code 0 = .ok (.iload_n 1, 1) := by decide +kernel
theorem d7_1 : decode jdk_52_method_15_code 1 = .ok (.aload_n 0, 1) := by decide +kernel
theorem d7_2 : decode jdk_52_method_15_code 2 = .ok (.arraylength, 1) := by decide +kernel
theorem d7_3 : decode jdk_52_method_15_code 3 = .ok (.isub, 1) := by decide +kernel
theorem d7_4 : decode jdk_52_method_15_code 4 = .ok (.bipush 31, 2) := by decide +kernel
theorem d7_6 : decode jdk_52_method_15_code 6 = .ok (.iushr, 1) := by decide +kernel
theorem d7_7 : decode jdk_52_method_15_code 7 = .ok (.i2b, 1) := by decide +kernel
theorem d7_8 : decode jdk_52_method_15_code 8 = .ok (.ireturn, 1) := by decide +kernel
theorem ef_7_1 (m : MethodId) (a1 : Addr) : entryFrame m #[(.ref a1), (.int (1 : Int32))] 2 = mkF m 0 #[.val (.ref a1), .val (.int (1 : Int32))] [] := by first | (simp [entryFrame, mkF, argsToLocals, Value.category]; done) | rfl
def f7_1 (g_a1f : Nat → Int32) : Int32 := (0 : Int32)
set_option maxRecDepth 65536 in
set_option maxHeartbeats 40000000 in
theorem rm7_1 (l : Launch) (Z : State) (a0 : Array Value) (hw : ∀ d ∈ tables_1, d.before a0 Z = true) (ws : List Jvm.Cond) (a1 : Addr) (g_a1f : Nat → Int32) (h0 : Heap) (n0 : Nat) (Z0 : n0 ≤ h0.size) (A_a1 : Ary Z h0 a1 .byte 1 (fun i => .int (g_a1f i))) :
    MetFree l (⟨"java/lang/StringUTF16", "coderFromArrayLen", "([BI)B"⟩ : MethodName) (head1 (Jvm.Cond.code (⟨"java/lang/StringUTF16", "coderFromArrayLen", "([BI)B"⟩ : MethodName) jdk_52_method_15_code 2 (some .byte) :: ws) ({ frames := 0, cells := 0, slots := 0, locals := 0 } : Room)) (fun a U => a = #[(.ref a1), (.int (1 : Int32))] ∧ Z.Warmed39 U.vm ∧ U.heap = h0) (fun _ _ _ _ _ => True) (fun _ U o U' => ∃ v L, o = .returned v ∧ QP (.int (f7_1 g_a1f)) h0 n0 v U'.heap L ∧ FrameEnd U o U' L ({ frames := 0, cells := 0, slots := 0, locals := 0 } : Room).cells ({ frames := 0, cells := 0, slots := 0, locals := 0 } : Room).slots) := by
  refine MetFree.of_bodySF (plainFor_of_name pn_0) hisR ?_
  intro p e s m args below meth c s₁ Bd hml0 hP hK
  obtain ⟨rfl, hZ, hh⟩ := hP
  have hx := Bd.exec
  have hby := Bd.bytes
  have hml : c.maxLocals = 2 := hml0
  have hown : s.vm.findClass "java/lang/StringUTF16" = some m.cls := findClass_of_methodNamed Bd.named
  have hnm := (name_of_methodNamed Bd.named Bd.method).1
  have X0 : Stand p l e ({ frames := 0, cells := 0, slots := 0, locals := 0 } : Room) s m #[(.ref a1), (.int (1 : Int32))] below meth c s₁ [] 0 0 := Stand.of_body Bd
  have e0 : s₁.heap = h0 := by rw [← hh, Bd.state]; rfl
  have N0 := Fr.nil n0
  refine Go.done (Go.step (fun t k => castTop (ef_7_1 m a1) k) ?_)
  have KK0 : Keep h0 h0 [] := Keep.refl _ _
  show Go p e below _ (s₁.setTop (mkF m 0 #[.val (.ref a1), .val (.int (1 : Int32))] []))
  refine Go.step (fun t k => XS.iloadN X0.here hx rfl (hb hby d7_0) rfl k) ?_
  show Go p e below _ (s₁.setTop (mkF m 1 #[.val (.ref a1), .val (.int (1 : Int32))] [(.int (1 : Int32))]))
  refine Go.step (fun t k => XS.aloadN X0.here hx rfl (hb hby d7_1) rfl rfl k) ?_
  show Go p e below _ (s₁.setTop (mkF m 2 #[.val (.ref a1), .val (.int (1 : Int32))] [(.ref a1), (.int (1 : Int32))]))
  refine Go.step (lenA X0 hx hZ e0 A_a1 (g := (mkF m 2 #[.val (.ref a1), .val (.int (1 : Int32))] [(.ref a1), (.int (1 : Int32))])) rfl rfl (hb hby d7_2)) ?_
  show Go p e below _ (s₁.setTop (mkF m 3 #[.val (.ref a1), .val (.int (1 : Int32))] [(.int (1 : Int32)), (.int (1 : Int32))]))
  refine Go.step (fun t k => XS.isub X0.here hx rfl (hb hby d7_3) rfl k) ?_
  show Go p e below _ (s₁.setTop (mkF m 4 #[.val (.ref a1), .val (.int (1 : Int32))] [(.int (0 : Int32))]))
  refine Go.step (fun t k => XS.bipush X0.here hx rfl (hb hby d7_4)  k) ?_
  show Go p e below _ (s₁.setTop (mkF m 6 #[.val (.ref a1), .val (.int (1 : Int32))] [(.int (31 : Int32)), (.int (0 : Int32))]))
  refine Go.step (fun t k => XS.iushr X0.here hx rfl (hb hby d7_6) rfl k) ?_
  show Go p e below _ (s₁.setTop (mkF m 7 #[.val (.ref a1), .val (.int (1 : Int32))] [(.int (0 : Int32))]))
  refine Go.step (fun t k => XS.i2b X0.here hx rfl (hb hby d7_7) rfl k) ?_
  show Go p e below _ (s₁.setTop (mkF m 8 #[.val (.ref a1), .val (.int (1 : Int32))] [(.int (0 : Int32))]))
  exact retGN X0 hx Bd.notSynchronized Bd.returns (t := .byte) (by simp) (z' := (0 : Int32)) rfl (hb hby d7_8) ⟨by first | rfl | (simp only [f7_1]; done) | (simp [f7_1]; done), N0, e0⟩ (by decide) (by decide)
theorem d3_0 : decode jdk_42_method_149_code 0 = .ok (.aload_n 0, 1) := by decide +kernel
theorem d3_1 : decode jdk_42_method_149_code 1 = .ok (.invokespecial 1, 3) := by decide +kernel
theorem d3_4 : decode jdk_42_method_149_code 4 = .ok (.iload_n 3, 1) := by decide +kernel
theorem d3_5 : decode jdk_42_method_149_code 5 = .ok (.ifCond .ne 22, 3) := by decide +kernel
theorem d3_27 : decode jdk_42_method_149_code 27 = .ok (.getstatic 38, 3) := by decide +kernel
theorem d3_30 : decode jdk_42_method_149_code 30 = .ok (.ifCond .eq 28, 3) := by decide +kernel
theorem d3_33 : decode jdk_42_method_149_code 33 = .ok (.aload_n 1, 1) := by decide +kernel
theorem d3_34 : decode jdk_42_method_149_code 34 = .ok (.iload_n 2, 1) := by decide +kernel
theorem d3_35 : decode jdk_42_method_149_code 35 = .ok (.iload_n 3, 1) := by decide +kernel
theorem d3_36 : decode jdk_42_method_149_code 36 = .ok (.invokestatic 177, 3) := by decide +kernel
theorem pd_1 : parseMethodDescriptor "([CII)[B" = some ⟨[(.array .char), .int, .int], some (.array .byte)⟩ := by decide +kernel
theorem d3_39 : decode jdk_42_method_149_code 39 = .ok (.astore 5, 2) := by decide +kernel
theorem d3_41 : decode jdk_42_method_149_code 41 = .ok (.aload_n 0, 1) := by decide +kernel
theorem d3_42 : decode jdk_42_method_149_code 42 = .ok (.aload 5, 2) := by decide +kernel
theorem d3_44 : decode jdk_42_method_149_code 44 = .ok (.iload_n 3, 1) := by decide +kernel
theorem d3_45 : decode jdk_42_method_149_code 45 = .ok (.invokestatic 47, 3) := by decide +kernel
theorem pd_2 : parseMethodDescriptor "([BI)B" = some ⟨[(.array .byte), .int], some .byte⟩ := by decide +kernel
theorem d3_48 : decode jdk_42_method_149_code 48 = .ok (.putfield 15, 3) := by decide +kernel
theorem d3_51 : decode jdk_42_method_149_code 51 = .ok (.aload_n 0, 1) := by decide +kernel
theorem d3_52 : decode jdk_42_method_149_code 52 = .ok (.aload 5, 2) := by decide +kernel
theorem d3_54 : decode jdk_42_method_149_code 54 = .ok (.putfield 9, 3) := by decide +kernel
theorem d3_57 : decode jdk_42_method_149_code 57 = .ok (.return_, 1) := by decide +kernel
theorem ef_3_1 (m : MethodId) (a1 : Addr) (a2 : Addr) : entryFrame m #[(.ref a1), (.ref a2), (.int (0 : Int32)), (.int (1 : Int32)), .null] 6 = mkF m 0 #[.val (.ref a1), .val (.ref a2), .val (.int (0 : Int32)), .val (.int (1 : Int32)), .val .null, .unset] [] := by first | (simp [entryFrame, mkF, argsToLocals, Value.category]; done) | rfl
theorem pn_1 : plainName "java/lang/String" = true := by first | (simp [plainName, overriddenIn]; done) | decide +kernel
def Q3_1 (Z : State) (a1 : Addr) (a2 : Addr) (g_a2f : Nat → Int32) (u_coder_a1 : Value) (u_value_a1 : Value) (wC : Int32) (h0 : Heap) (n0 : Nat) (v : Option Value) (h : Heap) (L : List Loc) : Prop := v = none ∧ Fr n0 L ∧ Keep h0 h [a1] ∧ Exa Z h a1 "java/lang/String" ∧ Fld Z h a1 "java/lang/String" "coder" "B" (.int (0 : Int32))
set_option maxRecDepth 65536 in
set_option maxHeartbeats 40000000 in
theorem rm3_1 (l : Launch) (Z : State) (a0 : Array Value) (hw : ∀ d ∈ tables_1, d.before a0 Z = true) (ws : List Jvm.Cond) (a1 : Addr) (a2 : Addr) (g_a2f : Nat → Int32) (u_coder_a1 : Value) (u_value_a1 : Value) (wC : Int32) (h0 : Heap) (n0 : Nat) (Z0 : n0 ≤ h0.size) (A_a2 : Ary Z h0 a2 .char 1 (fun i => .int (g_a2f i))) (E_a1 : Exa Z h0 a1 "java/lang/String") (F_coder_a1 : Fld Z h0 a1 "java/lang/String" "coder" "B" u_coder_a1) (F_value_a1 : Fld Z h0 a1 "java/lang/String" "value" "[B" u_value_a1) (hC : ¬ (wC = (0 : Int32))) (S_COMPACT_STRINGS : Sta Z Z.heap "java/lang/String" "COMPACT_STRINGS" "Z" (.int wC)) (hO : Old Z n0 h0) (hp36_hp9_hp20 : ¬ ((255 : Int32) < (g_a2f 0))) (g_a1 : n0 ≤ a1) (hne_a2_a1 : a2 ≠ a1) :
    MetFree l (⟨"java/lang/String", "<init>", "([CIILjava/lang/Void;)V"⟩ : MethodName) (head1 (Jvm.Cond.code (⟨"java/lang/String", "<init>", "([CIILjava/lang/Void;)V"⟩ : MethodName) jdk_42_method_149_code 6 none :: ws) ({ frames := 2, cells := 1, slots := 1, locals := 35 } : Room)) (fun a U => a = #[(.ref a1), (.ref a2), (.int (0 : Int32)), (.int (1 : Int32)), .null] ∧ Z.Warmed39 U.vm ∧ U.heap = h0) (fun _ _ _ _ _ => True) (fun _ U o U' => ∃ v L, o = .returned v ∧ Q3_1 Z a1 a2 g_a2f u_coder_a1 u_value_a1 wC h0 n0 v U'.heap L ∧ FrameEnd U o U' L ({ frames := 2, cells := 1, slots := 1, locals := 35 } : Room).cells ({ frames := 2, cells := 1, slots := 1, locals := 35 } : Room).slots) := by
  refine MetFree.of_bodySF (plainFor_of_name pn_1) hisR ?_
  intro p e s m args below meth c s₁ Bd hml0 hP hK
  obtain ⟨rfl, hZ, hh⟩ := hP
  have hx := Bd.exec
  have hby := Bd.bytes
  have hml : c.maxLocals = 6 := hml0
  have hown : s.vm.findClass "java/lang/String" = some m.cls := findClass_of_methodNamed Bd.named
  have hnm := (name_of_methodNamed Bd.named Bd.method).1
  have X0 : Stand p l e ({ frames := 2, cells := 1, slots := 1, locals := 35 } : Room) s m #[(.ref a1), (.ref a2), (.int (0 : Int32)), (.int (1 : Int32)), .null] below meth c s₁ [] 0 0 := Stand.of_body Bd
  have e0 : s₁.heap = h0 := by rw [← hh, Bd.state]; rfl
  have N0 := Fr.nil n0
  refine Go.done (Go.step (fun t k => castTop (ef_3_1 m a1 a2) k) ?_)
  have KK0 : Keep h0 h0 [a1] := Keep.refl _ _
  show Go p e below _ (s₁.setTop (mkF m 0 #[.val (.ref a1), .val (.ref a2), .val (.int (0 : Int32)), .val (.int (1 : Int32)), .val .null, .unset] []))
  refine Go.step (fun t k => XS.aloadN X0.here hx rfl (hb hby d3_0) rfl rfl k) ?_
  show Go p e below _ (s₁.setTop (mkF m 1 #[.val (.ref a1), .val (.ref a2), .val (.int (0 : Int32)), .val (.int (1 : Int32)), .val .null, .unset] [(.ref a1)]))
  obtain ⟨T6, X6, e6, st6⟩ := initO X0 hx hZ hown (hw _ (List.mem_of_getElem? (i := 15) rfl)) (hw _ (List.mem_of_getElem? (i := 16) rfl)) (hw _ (List.mem_of_getElem? (i := 17) rfl)) e0 (g := (mkF m 1 #[.val (.ref a1), .val (.ref a2), .val (.int (0 : Int32)), .val (.int (1 : Int32)), .val .null, .unset] [(.ref a1)])) rfl (by rw [hml]; rfl) rfl (hb hby d3_1) (by decide) (W := 0) (by show 2 * 0 + _ ≤ _; exact Nat.le_of_eq rfl) (by decide)
  refine Go.step st6 ?_
  show Go p e below _ (T6.setTop (mkF m 4 #[.val (.ref a1), .val (.ref a2), .val (.int (0 : Int32)), .val (.int (1 : Int32)), .val .null, .unset] []))
  refine Go.step (fun t k => XS.iloadN X6.here hx rfl (hb hby d3_4) rfl k) ?_
  show Go p e below _ (T6.setTop (mkF m 5 #[.val (.ref a1), .val (.ref a2), .val (.int (0 : Int32)), .val (.int (1 : Int32)), .val .null, .unset] [(.int (1 : Int32))]))
  refine Go.step (fun t k => XS.ifYes X6.here hx rfl (pc0 := 5) (pc' := 27) rfl (hb hby d3_5) rfl ((if0 _ _).trans (feq (by decide : ¬ ((1 : Int32) = (0 : Int32)))).2) (by decide) (by decide) k) ?_
  show Go p e below _ (T6.setTop (mkF m 27 #[.val (.ref a1), .val (.ref a2), .val (.int (0 : Int32)), .val (.int (1 : Int32)), .val .null, .unset] []))
  obtain ⟨T7, X7, e7, st7⟩ := getS2 X6 hx hZ hown (host := "") (Or.inl (hw _ (List.mem_of_getElem? (i := 18) rfl))) Via.refl e6 (S_COMPACT_STRINGS.ext hO.2) (g := (mkF m 27 #[.val (.ref a1), .val (.ref a2), .val (.int (0 : Int32)), .val (.int (1 : Int32)), .val .null, .unset] [])) rfl (hb hby d3_27)
  refine Go.step st7 ?_
  show Go p e below _ (T7.setTop (mkF m 30 #[.val (.ref a1), .val (.ref a2), .val (.int (0 : Int32)), .val (.int (1 : Int32)), .val .null, .unset] [(.int wC)]))
  refine Go.step (fun t k => XS.ifNo X7.here hx rfl (hb hby d3_30) rfl ((if0 _ _).trans (feq (hC : ¬ (wC = (0 : Int32)))).1) k) ?_
  show Go p e below _ (T7.setTop (mkF m 33 #[.val (.ref a1), .val (.ref a2), .val (.int (0 : Int32)), .val (.int (1 : Int32)), .val .null, .unset] []))
  refine Go.step (fun t k => XS.aloadN X7.here hx rfl (hb hby d3_33) rfl rfl k) ?_
  show Go p e below _ (T7.setTop (mkF m 34 #[.val (.ref a1), .val (.ref a2), .val (.int (0 : Int32)), .val (.int (1 : Int32)), .val .null, .unset] [(.ref a2)]))
  refine Go.step (fun t k => XS.iloadN X7.here hx rfl (hb hby d3_34) rfl k) ?_
  show Go p e below _ (T7.setTop (mkF m 35 #[.val (.ref a1), .val (.ref a2), .val (.int (0 : Int32)), .val (.int (1 : Int32)), .val .null, .unset] [(.int (0 : Int32)), (.ref a2)]))
  refine Go.step (fun t k => XS.iloadN X7.here hx rfl (hb hby d3_35) rfl k) ?_
  show Go p e below _ (T7.setTop (mkF m 36 #[.val (.ref a1), .val (.ref a2), .val (.int (0 : Int32)), .val (.int (1 : Int32)), .val .null, .unset] [(.int (1 : Int32)), (.int (0 : Int32)), (.ref a2)]))
  obtain ⟨_, _, ⟨T8, L8, k8, n8⟩, -, X8, ⟨Lc8, hQ8, l8, y8, z8⟩, st8⟩ := Jvm.LawKit.callS X7 hx (y := (⟨"java/lang/StringUTF16", "compress", "([CII)[B"⟩ : MethodName)) hown (mvT hZ (hw _ (List.mem_of_getElem? (i := 19) rfl))) (mvT hZ (hw _ (List.mem_of_getElem? (i := 20) rfl))) (mvT hZ (hw _ (List.mem_of_getElem? (i := 21) rfl))) (mvT hZ (hw _ (List.mem_of_getElem? (i := 22) rfl))) (by decide) (backOf (W := 0) (rm5_1 l Z a0 hw [] a2 g_a2f h0 n0 Z0 A_a2 hp36_hp9_hp20) hZ (hw _ (List.mem_of_getElem? (i := 22) rfl)) (hw _ (List.mem_of_getElem? (i := 21) rfl)) (by decide) (by decide)) (g := (mkF m 36 #[.val (.ref a1), .val (.ref a2), .val (.int (0 : Int32)), .val (.int (1 : Int32)), .val .null, .unset] [(.int (1 : Int32)), (.int (0 : Int32)), (.ref a2)])) rfl (by rw [hml]; rfl) (argsL := [(.ref a2), (.int (0 : Int32)), (.int (1 : Int32))]) (rest := []) (lenOf pd_1 rfl) rfl (by show 2 * 0 + _ ≤ _; exact Nat.le_of_eq rfl) (hb hby d3_36) (fun _ _ => ⟨rfl, e7, (by decide : 0 + 1 ≤ _), (by decide : 0 + 1 ≤ _)⟩)
  dsimp only [Pt.U, Pt.locs, Pt.cells, Pt.slots] at X8 l8 y8 z8 st8 hQ8
  replace y8 : k8 = 1 := y8
  replace z8 : n8 = 1 := z8
  subst y8 z8
  obtain ⟨b8_0, rfl, N8q, K8, sz8_0, Q8_0⟩ := hQ8
  have N8 : Fr n0 L8 := Eq.mpr (congrArg (Fr n0) l8) (Fr.app N0 N8q)
  have g_b8_0 : n0 ≤ b8_0 := Nat.le_trans Z0 sz8_0
  have sz_b8_0 : h0.size ≤ b8_0 := Nat.le_trans KK0.1 sz8_0
  have ne_a2_b8_0 : a2 ≠ b8_0 := Nat.ne_of_lt (Nat.lt_of_lt_of_le A_a2.lt sz8_0)
  have ne_a1_b8_0 : a1 ≠ b8_0 := Nat.ne_of_lt (Nat.lt_of_lt_of_le E_a1.lt sz8_0)
  have A_a2_8 := A_a2.keep K8 nin0
  have E_a1_8 := E_a1.keep K8
  have F_coder_a1_8 := F_coder_a1.keep K8 nin0
  have F_value_a1_8 := F_value_a1.keep K8 nin0
  have O8 := hO.keep K8 all0
  have Z8 := Nat.le_trans Z0 K8.1
  have KK8 : Keep h0 T8.heap [a1] := KK0.trans K8 all0
  clear A_a2 E_a1 F_coder_a1 F_value_a1 hO Z0 KK0 K8
  refine Go.step st8 ?_
  show Go p e below _ (T8.setTop (mkF m 39 #[.val (.ref a1), .val (.ref a2), .val (.int (0 : Int32)), .val (.int (1 : Int32)), .val .null, .unset] [(.ref b8_0)]))
  refine Go.step (fun t k => XS.astore X8.here hx rfl (hb hby d3_39) rfl rfl (l' := #[.val (.ref a1), .val (.ref a2), .val (.int (0 : Int32)), .val (.int (1 : Int32)), .val .null, .val (.ref b8_0)]) rfl k) ?_
  show Go p e below _ (T8.setTop (mkF m 41 #[.val (.ref a1), .val (.ref a2), .val (.int (0 : Int32)), .val (.int (1 : Int32)), .val .null, .val (.ref b8_0)] []))
  refine Go.step (fun t k => XS.aloadN X8.here hx rfl (hb hby d3_41) rfl rfl k) ?_
  show Go p e below _ (T8.setTop (mkF m 42 #[.val (.ref a1), .val (.ref a2), .val (.int (0 : Int32)), .val (.int (1 : Int32)), .val .null, .val (.ref b8_0)] [(.ref a1)]))
  refine Go.step (fun t k => XS.aload X8.here hx rfl (hb hby d3_42) rfl rfl k) ?_
  show Go p e below _ (T8.setTop (mkF m 44 #[.val (.ref a1), .val (.ref a2), .val (.int (0 : Int32)), .val (.int (1 : Int32)), .val .null, .val (.ref b8_0)] [(.ref b8_0), (.ref a1)]))
  refine Go.step (fun t k => XS.iloadN X8.here hx rfl (hb hby d3_44) rfl k) ?_
  show Go p e below _ (T8.setTop (mkF m 45 #[.val (.ref a1), .val (.ref a2), .val (.int (0 : Int32)), .val (.int (1 : Int32)), .val .null, .val (.ref b8_0)] [(.int (1 : Int32)), (.ref b8_0), (.ref a1)]))
  obtain ⟨_, _, ⟨T9, L9, k9, n9⟩, -, X9, ⟨Lc9, hQ9, l9, y9, z9⟩, st9⟩ := Jvm.LawKit.callS X8 hx (y := (⟨"java/lang/StringUTF16", "coderFromArrayLen", "([BI)B"⟩ : MethodName)) hown (mvT hZ (hw _ (List.mem_of_getElem? (i := 27) rfl))) (mvT hZ (hw _ (List.mem_of_getElem? (i := 28) rfl))) (mvT hZ (hw _ (List.mem_of_getElem? (i := 21) rfl))) (mvT hZ (hw _ (List.mem_of_getElem? (i := 29) rfl))) (by decide) (backOf (W := 1) (rm7_1 l Z a0 hw [] b8_0 (upA (fun _ => (0 : Int32)) 0 (nar .byte ((g_a2f 0).toInt8.toInt32))) T8.heap n0 Z8 Q8_0) hZ (hw _ (List.mem_of_getElem? (i := 29) rfl)) (hw _ (List.mem_of_getElem? (i := 21) rfl)) (by decide) (by decide)) (g := (mkF m 45 #[.val (.ref a1), .val (.ref a2), .val (.int (0 : Int32)), .val (.int (1 : Int32)), .val .null, .val (.ref b8_0)] [(.int (1 : Int32)), (.ref b8_0), (.ref a1)])) rfl (by rw [hml]; rfl) (argsL := [(.ref b8_0), (.int (1 : Int32))]) (rest := [(.ref a1)]) (lenOf pd_2 rfl) rfl (by show 2 * 0 + _ ≤ _; exact Nat.le_of_eq rfl) (hb hby d3_45) (fun _ _ => ⟨rfl, rfl, (by decide : 1 + 0 ≤ _), (by decide : 1 + 0 ≤ _)⟩)
  dsimp only [Pt.U, Pt.locs, Pt.cells, Pt.slots] at X9 l9 y9 z9 st9 hQ9
  replace y9 : k9 = 1 := y9
  replace z9 : n9 = 1 := z9
  subst y9 z9
  obtain ⟨rfl, N9q, e9⟩ := hQ9
  have N9 : Fr n0 L9 := Eq.mpr (congrArg (Fr n0) l9) (Fr.app N8 N9q)
  refine Go.step st9 ?_
  show Go p e below _ (T9.setTop (mkF m 48 #[.val (.ref a1), .val (.ref a2), .val (.int (0 : Int32)), .val (.int (1 : Int32)), .val .null, .val (.ref b8_0)] [(.int (0 : Int32)), (.ref a1)]))
  obtain ⟨T10, h10, X10, e10, W10, st10⟩ := putFN X9 hx hZ hown (hw _ (List.mem_of_getElem? (i := 30) rfl)) Via.refl e9 F_coder_a1_8 E_a1_8 (Or.inr ⟨(hw _ (List.mem_of_getElem? (i := 31) rfl)), rfl, hnm⟩) (hw _ (List.mem_of_getElem? (i := 6) rfl)) (ty := .byte) (v' := .int (0 : Int32)) (by decide) rfl (by decide) (g := (mkF m 48 #[.val (.ref a1), .val (.ref a2), .val (.int (0 : Int32)), .val (.int (1 : Int32)), .val .null, .val (.ref b8_0)] [(.int (0 : Int32)), (.ref a1)])) rfl rfl (hb hby d3_48)
  refine Go.step st10 ?_
  have N10 := Fr.snoc X10 N9 g_a1
  have A_a2_10 := A_a2_8.other W10 hne_a2_a1
  have E_a1_10 := E_a1_8.wr W10
  have F_value_a1_10 := F_value_a1_8.other W10 (Or.inr (slot_ne (Or.inr (hw _ (List.mem_of_getElem? (i := 33) rfl))) (Or.inr (hw _ (List.mem_of_getElem? (i := 31) rfl))) (by decide) (t := (.array .byte)) (t' := .byte) (by decide) (by decide)))
  have A_b8_0_10 := Q8_0.other W10 (Ne.symm ne_a1_b8_0)
  have O10 := O8.wr W10 g_a1
  have Z10 := Nat.le_trans Z8 (Keep.of_wr W10).1
  have KK10 : Keep h0 h10 [a1] := KK8.wr W10 (Or.inl (by simp))
  clear A_a2_8 E_a1_8 F_value_a1_8 Q8_0 O8 Z8 KK8
  have F_coder_a1_10 := F_coder_a1_8.same W10
  show Go p e below _ (T10.setTop (mkF m 51 #[.val (.ref a1), .val (.ref a2), .val (.int (0 : Int32)), .val (.int (1 : Int32)), .val .null, .val (.ref b8_0)] []))
  refine Go.step (fun t k => XS.aloadN X10.here hx rfl (hb hby d3_51) rfl rfl k) ?_
  show Go p e below _ (T10.setTop (mkF m 52 #[.val (.ref a1), .val (.ref a2), .val (.int (0 : Int32)), .val (.int (1 : Int32)), .val .null, .val (.ref b8_0)] [(.ref a1)]))
  refine Go.step (fun t k => XS.aload X10.here hx rfl (hb hby d3_52) rfl rfl k) ?_
  show Go p e below _ (T10.setTop (mkF m 54 #[.val (.ref a1), .val (.ref a2), .val (.int (0 : Int32)), .val (.int (1 : Int32)), .val .null, .val (.ref b8_0)] [(.ref b8_0), (.ref a1)]))
  obtain ⟨T11, h11, X11, e11, W11, st11⟩ := putF X10 hx hZ hown (host := "") (Or.inl (hw _ (List.mem_of_getElem? (i := 32) rfl))) Via.refl e10 F_value_a1_10 E_a1_10 (Or.inr ⟨(hw _ (List.mem_of_getElem? (i := 33) rfl)), rfl, hnm⟩) (hw _ (List.mem_of_getElem? (i := 6) rfl)) (ty := (.array .byte)) (by decide) rfl rfl (g := (mkF m 54 #[.val (.ref a1), .val (.ref a2), .val (.int (0 : Int32)), .val (.int (1 : Int32)), .val .null, .val (.ref b8_0)] [(.ref b8_0), (.ref a1)])) rfl rfl (hb hby d3_54)
  refine Go.step st11 ?_
  have N11 := Fr.snoc X11 N10 g_a1
  have A_a2_11 := A_a2_10.other W11 hne_a2_a1
  have E_a1_11 := E_a1_10.wr W11
  have F_coder_a1_11 := F_coder_a1_10.other W11 (Or.inr (slot_ne (Or.inr (hw _ (List.mem_of_getElem? (i := 31) rfl))) (Or.inr (hw _ (List.mem_of_getElem? (i := 33) rfl))) (by decide) (t := .byte) (t' := (.array .byte)) (by decide) (by decide)))
  have A_b8_0_11 := A_b8_0_10.other W11 (Ne.symm ne_a1_b8_0)
  have O11 := O10.wr W11 g_a1
  have Z11 := Nat.le_trans Z10 (Keep.of_wr W11).1
  have KK11 : Keep h0 h11 [a1] := KK10.wr W11 (Or.inl (by simp))
  clear A_a2_10 E_a1_10 F_coder_a1_10 A_b8_0_10 O10 Z10 KK10
  have F_value_a1_11 := F_value_a1_10.same W11
  show Go p e below _ (T11.setTop (mkF m 57 #[.val (.ref a1), .val (.ref a2), .val (.int (0 : Int32)), .val (.int (1 : Int32)), .val .null, .val (.ref b8_0)] []))
  refine retGV X11 hx Bd.notSynchronized Bd.returns (hb hby d3_57) ?_ (by decide) (by decide)
  show Q3_1 Z a1 a2 g_a2f u_coder_a1 u_value_a1 wC h0 n0 _ T11.heap _
  rw [e11]
  exact ⟨rfl, N11, KK11, E_a1_11, F_coder_a1_11⟩
theorem d2_0 : decode jdk_42_method_3_code 0 = .ok (.aload_n 0, 1) := by decide +kernel
theorem d2_1 : decode jdk_42_method_3_code 1 = .ok (.aload_n 1, 1) := by decide +kernel
theorem d2_2 : decode jdk_42_method_3_code 2 = .ok (.iconst 0, 1) := by decide +kernel
theorem d2_3 : decode jdk_42_method_3_code 3 = .ok (.aload_n 1, 1) := by decide +kernel
theorem d2_4 : decode jdk_42_method_3_code 4 = .ok (.arraylength, 1) := by decide +kernel
theorem d2_5 : decode jdk_42_method_3_code 5 = .ok (.aconst_null, 1) := by decide +kernel
theorem d2_6 : decode jdk_42_method_3_code 6 = .ok (.invokespecial 27, 3) := by decide +kernel
theorem pd_3 : parseMethodDescriptor "([CIILjava/lang/Void;)V" = some ⟨[(.array .char), .int, .int, (.object "java/lang/Void")], none⟩ := by decide +kernel
theorem d2_9 : decode jdk_42_method_3_code 9 = .ok (.return_, 1) := by decide +kernel
theorem ef_2_1 (m : MethodId) (a1 : Addr) (a2 : Addr) : entryFrame m #[(.ref a1), (.ref a2)] 2 = mkF m 0 #[.val (.ref a1), .val (.ref a2)] [] := by first | (simp [entryFrame, mkF, argsToLocals, Value.category]; done) | rfl
def Q2_1 (Z : State) (a1 : Addr) (a2 : Addr) (g_a2f : Nat → Int32) (u_coder_a1 : Value) (u_value_a1 : Value) (wC : Int32) (h0 : Heap) (n0 : Nat) (v : Option Value) (h : Heap) (L : List Loc) : Prop := v = none ∧ Fr n0 L ∧ Keep h0 h [a1] ∧ Exa Z h a1 "java/lang/String" ∧ Fld Z h a1 "java/lang/String" "coder" "B" (.int (0 : Int32))
set_option maxRecDepth 65536 in
set_option maxHeartbeats 40000000 in
theorem rm2_1 (l : Launch) (Z : State) (a0 : Array Value) (hw : ∀ d ∈ tables_1, d.before a0 Z = true) (ws : List Jvm.Cond) (a1 : Addr) (a2 : Addr) (g_a2f : Nat → Int32) (u_coder_a1 : Value) (u_value_a1 : Value) (wC : Int32) (h0 : Heap) (n0 : Nat) (Z0 : n0 ≤ h0.size) (A_a2 : Ary Z h0 a2 .char 1 (fun i => .int (g_a2f i))) (E_a1 : Exa Z h0 a1 "java/lang/String") (F_coder_a1 : Fld Z h0 a1 "java/lang/String" "coder" "B" u_coder_a1) (F_value_a1 : Fld Z h0 a1 "java/lang/String" "value" "[B" u_value_a1) (hC : ¬ (wC = (0 : Int32))) (S_COMPACT_STRINGS : Sta Z Z.heap "java/lang/String" "COMPACT_STRINGS" "Z" (.int wC)) (hO : Old Z n0 h0) (g_a1 : n0 ≤ a1) (hp6_hp36_hp9_hp20 : ¬ ((255 : Int32) < (g_a2f 0))) (hne_a2_a1 : a2 ≠ a1) :
    MetFree l (⟨"java/lang/String", "<init>", "([C)V"⟩ : MethodName) (head1 (Jvm.Cond.code (⟨"java/lang/String", "<init>", "([C)V"⟩ : MethodName) jdk_42_method_3_code 2 none :: ws) ({ frames := 3, cells := 1, slots := 1, locals := 52 } : Room)) (fun a U => a = #[(.ref a1), (.ref a2)] ∧ Z.Warmed39 U.vm ∧ U.heap = h0) (fun _ _ _ _ _ => True) (fun _ U o U' => ∃ v L, o = .returned v ∧ Q2_1 Z a1 a2 g_a2f u_coder_a1 u_value_a1 wC h0 n0 v U'.heap L ∧ FrameEnd U o U' L ({ frames := 3, cells := 1, slots := 1, locals := 52 } : Room).cells ({ frames := 3, cells := 1, slots := 1, locals := 52 } : Room).slots) := by
  refine MetFree.of_bodySF (plainFor_of_name pn_1) hisR ?_
  intro p e s m args below meth c s₁ Bd hml0 hP hK
  obtain ⟨rfl, hZ, hh⟩ := hP
  have hx := Bd.exec
  have hby := Bd.bytes
  have hml : c.maxLocals = 2 := hml0
  have hown : s.vm.findClass "java/lang/String" = some m.cls := findClass_of_methodNamed Bd.named
  have hnm := (name_of_methodNamed Bd.named Bd.method).1
  have X0 : Stand p l e ({ frames := 3, cells := 1, slots := 1, locals := 52 } : Room) s m #[(.ref a1), (.ref a2)] below meth c s₁ [] 0 0 := Stand.of_body Bd
  have e0 : s₁.heap = h0 := by rw [← hh, Bd.state]; rfl
  have N0 := Fr.nil n0
  refine Go.done (Go.step (fun t k => castTop (ef_2_1 m a1 a2) k) ?_)
  have KK0 : Keep h0 h0 [a1] := Keep.refl _ _
  show Go p e below _ (s₁.setTop (mkF m 0 #[.val (.ref a1), .val (.ref a2)] []))
  refine Go.step (fun t k => XS.aloadN X0.here hx rfl (hb hby d2_0) rfl rfl k) ?_
  show Go p e below _ (s₁.setTop (mkF m 1 #[.val (.ref a1), .val (.ref a2)] [(.ref a1)]))
  refine Go.step (fun t k => XS.aloadN X0.here hx rfl (hb hby d2_1) rfl rfl k) ?_
  show Go p e below _ (s₁.setTop (mkF m 2 #[.val (.ref a1), .val (.ref a2)] [(.ref a2), (.ref a1)]))
  refine Go.step (fun t k => XS.iconst X0.here hx rfl (hb hby d2_2)  k) ?_
  show Go p e below _ (s₁.setTop (mkF m 3 #[.val (.ref a1), .val (.ref a2)] [(.int (0 : Int32)), (.ref a2), (.ref a1)]))
  refine Go.step (fun t k => XS.aloadN X0.here hx rfl (hb hby d2_3) rfl rfl k) ?_
  show Go p e below _ (s₁.setTop (mkF m 4 #[.val (.ref a1), .val (.ref a2)] [(.ref a2), (.int (0 : Int32)), (.ref a2), (.ref a1)]))
  refine Go.step (lenA X0 hx hZ e0 A_a2 (g := (mkF m 4 #[.val (.ref a1), .val (.ref a2)] [(.ref a2), (.int (0 : Int32)), (.ref a2), (.ref a1)])) rfl rfl (hb hby d2_4)) ?_
  show Go p e below _ (s₁.setTop (mkF m 5 #[.val (.ref a1), .val (.ref a2)] [(.int (1 : Int32)), (.int (0 : Int32)), (.ref a2), (.ref a1)]))
  refine Go.step (fun t k => XS.aconstNull X0.here hx rfl (hb hby d2_5)  k) ?_
  show Go p e below _ (s₁.setTop (mkF m 6 #[.val (.ref a1), .val (.ref a2)] [.null, (.int (1 : Int32)), (.int (0 : Int32)), (.ref a2), (.ref a1)]))
  obtain ⟨_, _, ⟨T3, L3, k3, n3⟩, -, X3, ⟨Lc3, hQ3, l3, y3, z3⟩, st3⟩ := X0.specialBack hx (y := (⟨"java/lang/String", "<init>", "([CIILjava/lang/Void;)V"⟩ : MethodName)) rfl hown (mvT hZ (hw _ (List.mem_of_getElem? (i := 11) rfl))) (mvT hZ (hw _ (List.mem_of_getElem? (i := 12) rfl))) (mvT hZ (hw _ (List.mem_of_getElem? (i := 14) rfl))) (by decide) (backOf (W := 0) (rm3_1 l Z a0 hw [] a1 a2 g_a2f u_coder_a1 u_value_a1 wC h0 n0 Z0 A_a2 E_a1 F_coder_a1 F_value_a1 hC S_COMPACT_STRINGS hO hp6_hp36_hp9_hp20 g_a1 hne_a2_a1) hZ (hw _ (List.mem_of_getElem? (i := 14) rfl)) (hw _ (List.mem_of_getElem? (i := 7) rfl)) (by decide) (by decide)) (g := (mkF m 6 #[.val (.ref a1), .val (.ref a2)] [.null, (.int (1 : Int32)), (.int (0 : Int32)), (.ref a2), (.ref a1)])) rfl (by rw [hml]; rfl) (Steps.refl _) (a := a1) (argsL := [(.ref a2), (.int (0 : Int32)), (.int (1 : Int32)), .null]) (rest := []) (lenOf pd_3 rfl) rfl (by show 2 * 0 + _ ≤ _; exact Nat.le_of_eq rfl) (hb hby d2_6) (fun _ _ => ⟨rfl, e0, (by decide : 0 + 1 ≤ _), (by decide : 0 + 1 ≤ _)⟩)
  dsimp only [Pt.U, Pt.locs, Pt.cells, Pt.slots] at X3 l3 y3 z3 st3 hQ3
  replace y3 : k3 = 1 := y3
  replace z3 : n3 = 1 := z3
  subst y3 z3
  obtain ⟨rfl, N3q, K3, Q3_0, Q3_1⟩ := hQ3
  have N3 : Fr n0 L3 := Eq.mpr (congrArg (Fr n0) l3) (Fr.app N0 N3q)
  have A_a2_3 := A_a2.keep K3 (ninS hne_a2_a1 nin0)
  have E_a1_3 := E_a1.keep K3
  have O3 := hO.keep K3 (allS g_a1 all0)
  have Z3 := Nat.le_trans Z0 K3.1
  have KK3 : Keep h0 T3.heap [a1] := KK0.trans K3 (allS (Or.inl (by simp)) all0)
  clear A_a2 E_a1 hO Z0 KK0 K3
  refine Go.trans st3 ?_
  show Go p e below _ (T3.setTop (mkF m 9 #[.val (.ref a1), .val (.ref a2)] []))
  refine retGV X3 hx Bd.notSynchronized Bd.returns (hb hby d2_9) ?_ (by decide) (by decide)
  show Q2_1 Z a1 a2 g_a2f u_coder_a1 u_value_a1 wC h0 n0 _ T3.heap _
  exact ⟨rfl, N3, KK3, Q3_0, Q3_1⟩
theorem ef_6_2 (m : MethodId) (a1 : Addr) (a3 : Addr) : entryFrame m #[(.ref a1), (.int (0 : Int32)), (.ref a3), (.int (0 : Int32)), (.int (2 : Int32))] 7 = mkF m 0 #[.val (.ref a1), .val (.int (0 : Int32)), .val (.ref a3), .val (.int (0 : Int32)), .val (.int (2 : Int32)), .unset, .unset] [] := by first | (simp [entryFrame, mkF, argsToLocals, Value.category]; done) | rfl
def Q6_2 (Z : State) (a1 : Addr) (a3 : Addr) (g_a1f : Nat → Int32) (g_a3f : Nat → Int32) (h0 : Heap) (n0 : Nat) (v : Option Value) (h : Heap) (L : List Loc) : Prop := v = some (.int (2 : Int32)) ∧ Fr n0 L ∧ Keep h0 h [a3] ∧ Ary Z h a3 .byte 2 (fun i => .int ((upA (upA g_a3f 0 (nar .byte ((g_a1f 0).toInt8.toInt32))) 1 (nar .byte ((g_a1f 1).toInt8.toInt32))) i))
set_option maxRecDepth 65536 in
set_option maxHeartbeats 40000000 in
theorem rm6_2 (l : Launch) (Z : State) (a0 : Array Value) (hw : ∀ d ∈ tables_1, d.before a0 Z = true) (ws : List Jvm.Cond) (a1 : Addr) (a3 : Addr) (g_a1f : Nat → Int32) (g_a3f : Nat → Int32) (h0 : Heap) (n0 : Nat) (Z0 : n0 ≤ h0.size) (A_a1 : Ary Z h0 a1 .char 2 (fun i => .int (g_a1f i))) (A_a3 : Ary Z h0 a3 .byte 2 (fun i => .int (g_a3f i))) (hp20 : ¬ ((255 : Int32) < (g_a1f 0))) (g_a3 : n0 ≤ a3) (hne_a1_a3 : a1 ≠ a3) (hp20_x2 : ¬ ((255 : Int32) < (g_a1f 1))) :
    MetFree l (⟨"java/lang/StringUTF16", "compress", "([CI[BII)I"⟩ : MethodName) (head1 (Jvm.Cond.code (⟨"java/lang/StringUTF16", "compress", "([CI[BII)I"⟩ : MethodName) jdk_52_method_21_code 7 (some .int) :: ws) ({ frames := 0, cells := 0, slots := 0, locals := 0 } : Room)) (fun a U => a = #[(.ref a1), (.int (0 : Int32)), (.ref a3), (.int (0 : Int32)), (.int (2 : Int32))] ∧ Z.Warmed39 U.vm ∧ U.heap = h0) (fun _ _ _ _ _ => True) (fun _ U o U' => ∃ v L, o = .returned v ∧ Q6_2 Z a1 a3 g_a1f g_a3f h0 n0 v U'.heap L ∧ FrameEnd U o U' L ({ frames := 0, cells := 0, slots := 0, locals := 0 } : Room).cells ({ frames := 0, cells := 0, slots := 0, locals := 0 } : Room).slots) := by
  refine MetFree.of_bodySF (plainFor_of_name pn_0) hisR ?_
  intro p e s m args below meth c s₁ Bd hml0 hP hK
  obtain ⟨rfl, hZ, hh⟩ := hP
  have hx := Bd.exec
  have hby := Bd.bytes
  have hml : c.maxLocals = 7 := hml0
  have hown : s.vm.findClass "java/lang/StringUTF16" = some m.cls := findClass_of_methodNamed Bd.named
  have hnm := (name_of_methodNamed Bd.named Bd.method).1
  have X0 : Stand p l e ({ frames := 0, cells := 0, slots := 0, locals := 0 } : Room) s m #[(.ref a1), (.int (0 : Int32)), (.ref a3), (.int (0 : Int32)), (.int (2 : Int32))] below meth c s₁ [] 0 0 := Stand.of_body Bd
  have e0 : s₁.heap = h0 := by rw [← hh, Bd.state]; rfl
  have N0 := Fr.nil n0
  refine Go.done (Go.step (fun t k => castTop (ef_6_2 m a1 a3) k) ?_)
  have KK0 : Keep h0 h0 [a3] := Keep.refl _ _
  show Go p e below _ (s₁.setTop (mkF m 0 #[.val (.ref a1), .val (.int (0 : Int32)), .val (.ref a3), .val (.int (0 : Int32)), .val (.int (2 : Int32)), .unset, .unset] []))
  refine Go.step (fun t k => XS.iconst X0.here hx rfl (hb hby d6_0)  k) ?_
  show Go p e below _ (s₁.setTop (mkF m 1 #[.val (.ref a1), .val (.int (0 : Int32)), .val (.ref a3), .val (.int (0 : Int32)), .val (.int (2 : Int32)), .unset, .unset] [(.int (0 : Int32))]))
  refine Go.step (fun t k => XS.istore X0.here hx rfl (hb hby d6_1) rfl (l' := #[.val (.ref a1), .val (.int (0 : Int32)), .val (.ref a3), .val (.int (0 : Int32)), .val (.int (2 : Int32)), .val (.int (0 : Int32)), .unset]) rfl k) ?_
  show Go p e below _ (s₁.setTop (mkF m 3 #[.val (.ref a1), .val (.int (0 : Int32)), .val (.ref a3), .val (.int (0 : Int32)), .val (.int (2 : Int32)), .val (.int (0 : Int32)), .unset] []))
  refine Go.step (fun t k => XS.iload X0.here hx rfl (hb hby d6_3) rfl k) ?_
  show Go p e below _ (s₁.setTop (mkF m 5 #[.val (.ref a1), .val (.int (0 : Int32)), .val (.ref a3), .val (.int (0 : Int32)), .val (.int (2 : Int32)), .val (.int (0 : Int32)), .unset] [(.int (0 : Int32))]))
  refine Go.step (fun t k => XS.iload X0.here hx rfl (hb hby d6_5) rfl k) ?_
  show Go p e below _ (s₁.setTop (mkF m 7 #[.val (.ref a1), .val (.int (0 : Int32)), .val (.ref a3), .val (.int (0 : Int32)), .val (.int (2 : Int32)), .val (.int (0 : Int32)), .unset] [(.int (2 : Int32)), (.int (0 : Int32))]))
  refine Go.step (fun t k => XS.icmpNo X0.here hx rfl (hb hby d6_7) rfl (tlt (by decide : (0 : Int32) < (2 : Int32))).2.1 k) ?_
  show Go p e below _ (s₁.setTop (mkF m 10 #[.val (.ref a1), .val (.int (0 : Int32)), .val (.ref a3), .val (.int (0 : Int32)), .val (.int (2 : Int32)), .val (.int (0 : Int32)), .unset] []))
  refine Go.step (fun t k => XS.aloadN X0.here hx rfl (hb hby d6_10) rfl rfl k) ?_
  show Go p e below _ (s₁.setTop (mkF m 11 #[.val (.ref a1), .val (.int (0 : Int32)), .val (.ref a3), .val (.int (0 : Int32)), .val (.int (2 : Int32)), .val (.int (0 : Int32)), .unset] [(.ref a1)]))
  refine Go.step (fun t k => XS.iloadN X0.here hx rfl (hb hby d6_11) rfl k) ?_
  show Go p e below _ (s₁.setTop (mkF m 12 #[.val (.ref a1), .val (.int (0 : Int32)), .val (.ref a3), .val (.int (0 : Int32)), .val (.int (2 : Int32)), .val (.int (0 : Int32)), .unset] [(.int (0 : Int32)), (.ref a1)]))
  refine Go.step (ldC X0 hx hZ e0 A_a1 (j := (0 : Int32)) (by decide) (by decide) (g := (mkF m 12 #[.val (.ref a1), .val (.int (0 : Int32)), .val (.ref a3), .val (.int (0 : Int32)), .val (.int (2 : Int32)), .val (.int (0 : Int32)), .unset] [(.int (0 : Int32)), (.ref a1)])) rfl rfl (hb hby d6_12)) ?_
  show Go p e below _ (s₁.setTop (mkF m 13 #[.val (.ref a1), .val (.int (0 : Int32)), .val (.ref a3), .val (.int (0 : Int32)), .val (.int (2 : Int32)), .val (.int (0 : Int32)), .unset] [(.int (g_a1f 0))]))
  refine Go.step (fun t k => XS.istore X0.here hx rfl (hb hby d6_13) rfl (l' := #[.val (.ref a1), .val (.int (0 : Int32)), .val (.ref a3), .val (.int (0 : Int32)), .val (.int (2 : Int32)), .val (.int (0 : Int32)), .val (.int (g_a1f 0))]) rfl k) ?_
  show Go p e below _ (s₁.setTop (mkF m 15 #[.val (.ref a1), .val (.int (0 : Int32)), .val (.ref a3), .val (.int (0 : Int32)), .val (.int (2 : Int32)), .val (.int (0 : Int32)), .val (.int (g_a1f 0))] []))
  refine Go.step (fun t k => XS.iload X0.here hx rfl (hb hby d6_15) rfl k) ?_
  show Go p e below _ (s₁.setTop (mkF m 17 #[.val (.ref a1), .val (.int (0 : Int32)), .val (.ref a3), .val (.int (0 : Int32)), .val (.int (2 : Int32)), .val (.int (0 : Int32)), .val (.int (g_a1f 0))] [(.int (g_a1f 0))]))
  refine Go.step (fun t k => XS.sipush X0.here hx rfl (hb hby d6_17)  k) ?_
  show Go p e below _ (s₁.setTop (mkF m 20 #[.val (.ref a1), .val (.int (0 : Int32)), .val (.ref a3), .val (.int (0 : Int32)), .val (.int (2 : Int32)), .val (.int (0 : Int32)), .val (.int (g_a1f 0))] [(.int (255 : Int32)), (.int (g_a1f 0))]))
  refine Go.step (fun t k => XS.icmpYes X0.here hx rfl (pc0 := 20) (pc' := 26) rfl (hb hby d6_20) rfl (flt hp20).2.2.2 (by decide) (by decide) k) ?_
  show Go p e below _ (s₁.setTop (mkF m 26 #[.val (.ref a1), .val (.int (0 : Int32)), .val (.ref a3), .val (.int (0 : Int32)), .val (.int (2 : Int32)), .val (.int (0 : Int32)), .val (.int (g_a1f 0))] []))
  refine Go.step (fun t k => XS.aloadN X0.here hx rfl (hb hby d6_26) rfl rfl k) ?_
  show Go p e below _ (s₁.setTop (mkF m 27 #[.val (.ref a1), .val (.int (0 : Int32)), .val (.ref a3), .val (.int (0 : Int32)), .val (.int (2 : Int32)), .val (.int (0 : Int32)), .val (.int (g_a1f 0))] [(.ref a3)]))
  refine Go.step (fun t k => XS.iloadN X0.here hx rfl (hb hby d6_27) rfl k) ?_
  show Go p e below _ (s₁.setTop (mkF m 28 #[.val (.ref a1), .val (.int (0 : Int32)), .val (.ref a3), .val (.int (0 : Int32)), .val (.int (2 : Int32)), .val (.int (0 : Int32)), .val (.int (g_a1f 0))] [(.int (0 : Int32)), (.ref a3)]))
  refine Go.step (fun t k => XS.iload X0.here hx rfl (hb hby d6_28) rfl k) ?_
  show Go p e below _ (s₁.setTop (mkF m 30 #[.val (.ref a1), .val (.int (0 : Int32)), .val (.ref a3), .val (.int (0 : Int32)), .val (.int (2 : Int32)), .val (.int (0 : Int32)), .val (.int (g_a1f 0))] [(.int (g_a1f 0)), (.int (0 : Int32)), (.ref a3)]))
  refine Go.step (fun t k => XS.i2b X0.here hx rfl (hb hby d6_30) rfl k) ?_
  show Go p e below _ (s₁.setTop (mkF m 31 #[.val (.ref a1), .val (.int (0 : Int32)), .val (.ref a3), .val (.int (0 : Int32)), .val (.int (2 : Int32)), .val (.int (0 : Int32)), .val (.int (g_a1f 0))] [(.int ((g_a1f 0).toInt8.toInt32)), (.int (0 : Int32)), (.ref a3)]))
  obtain ⟨cl6, Ar6, in6, -⟩ := A_a3.hin (j := (0 : Int32)) (by decide) (by decide)
  obtain ⟨T6, h6, X6, e6, W6, st6⟩ := stB X0 hx hZ e0 Ar6 in6 (g := (mkF m 31 #[.val (.ref a1), .val (.int (0 : Int32)), .val (.ref a3), .val (.int (0 : Int32)), .val (.int (2 : Int32)), .val (.int (0 : Int32)), .val (.int (g_a1f 0))] [(.int ((g_a1f 0).toInt8.toInt32)), (.int (0 : Int32)), (.ref a3)])) rfl rfl (hb hby d6_31)
  refine Go.step st6 ?_
  have N6 := Fr.snoc X6 N0 g_a3
  have A_a1_6 := A_a1.other W6 hne_a1_a3
  have Z6 := Nat.le_trans Z0 (Keep.of_wr W6).1
  have KK6 : Keep h0 h6 [a3] := KK0.wr W6 (Or.inl (by simp))
  clear A_a1 Z0 KK0
  have A_a3_6 : Ary Z h6 a3 .byte 2 (fun i => .int ((upA g_a3f 0 (nar .byte ((g_a1f 0).toInt8.toInt32))) i)) := A_a3.setI W6 (by decide)
  show Go p e below _ (T6.setTop (mkF m 32 #[.val (.ref a1), .val (.int (0 : Int32)), .val (.ref a3), .val (.int (0 : Int32)), .val (.int (2 : Int32)), .val (.int (0 : Int32)), .val (.int (g_a1f 0))] []))
  refine Go.step (fun t k => XS.iinc X6.here hx rfl (hb hby d6_32) rfl (l' := #[.val (.ref a1), .val (.int (1 : Int32)), .val (.ref a3), .val (.int (0 : Int32)), .val (.int (2 : Int32)), .val (.int (0 : Int32)), .val (.int (g_a1f 0))]) rfl k) ?_
  show Go p e below _ (T6.setTop (mkF m 35 #[.val (.ref a1), .val (.int (1 : Int32)), .val (.ref a3), .val (.int (0 : Int32)), .val (.int (2 : Int32)), .val (.int (0 : Int32)), .val (.int (g_a1f 0))] []))
  refine Go.step (fun t k => XS.iinc X6.here hx rfl (hb hby d6_35) rfl (l' := #[.val (.ref a1), .val (.int (1 : Int32)), .val (.ref a3), .val (.int (1 : Int32)), .val (.int (2 : Int32)), .val (.int (0 : Int32)), .val (.int (g_a1f 0))]) rfl k) ?_
  show Go p e below _ (T6.setTop (mkF m 38 #[.val (.ref a1), .val (.int (1 : Int32)), .val (.ref a3), .val (.int (1 : Int32)), .val (.int (2 : Int32)), .val (.int (0 : Int32)), .val (.int (g_a1f 0))] []))
  refine Go.step (fun t k => XS.iinc X6.here hx rfl (hb hby d6_38) rfl (l' := #[.val (.ref a1), .val (.int (1 : Int32)), .val (.ref a3), .val (.int (1 : Int32)), .val (.int (2 : Int32)), .val (.int (1 : Int32)), .val (.int (g_a1f 0))]) rfl k) ?_
  show Go p e below _ (T6.setTop (mkF m 41 #[.val (.ref a1), .val (.int (1 : Int32)), .val (.ref a3), .val (.int (1 : Int32)), .val (.int (2 : Int32)), .val (.int (1 : Int32)), .val (.int (g_a1f 0))] []))
  refine Go.step (fun t k => XS.goto X6.here hx rfl (pc0 := 41) (pc' := 3) rfl (hb hby d6_41) (by decide) (by decide) k) ?_
  show Go p e below _ (T6.setTop (mkF m 3 #[.val (.ref a1), .val (.int (1 : Int32)), .val (.ref a3), .val (.int (1 : Int32)), .val (.int (2 : Int32)), .val (.int (1 : Int32)), .val (.int (g_a1f 0))] []))
  refine Go.step (fun t k => XS.iload X6.here hx rfl (hb hby d6_3) rfl k) ?_
  show Go p e below _ (T6.setTop (mkF m 5 #[.val (.ref a1), .val (.int (1 : Int32)), .val (.ref a3), .val (.int (1 : Int32)), .val (.int (2 : Int32)), .val (.int (1 : Int32)), .val (.int (g_a1f 0))] [(.int (1 : Int32))]))
  refine Go.step (fun t k => XS.iload X6.here hx rfl (hb hby d6_5) rfl k) ?_
  show Go p e below _ (T6.setTop (mkF m 7 #[.val (.ref a1), .val (.int (1 : Int32)), .val (.ref a3), .val (.int (1 : Int32)), .val (.int (2 : Int32)), .val (.int (1 : Int32)), .val (.int (g_a1f 0))] [(.int (2 : Int32)), (.int (1 : Int32))]))
  refine Go.step (fun t k => XS.icmpNo X6.here hx rfl (hb hby d6_7) rfl (tlt (by decide : (1 : Int32) < (2 : Int32))).2.1 k) ?_
  show Go p e below _ (T6.setTop (mkF m 10 #[.val (.ref a1), .val (.int (1 : Int32)), .val (.ref a3), .val (.int (1 : Int32)), .val (.int (2 : Int32)), .val (.int (1 : Int32)), .val (.int (g_a1f 0))] []))
  refine Go.step (fun t k => XS.aloadN X6.here hx rfl (hb hby d6_10) rfl rfl k) ?_
  show Go p e below _ (T6.setTop (mkF m 11 #[.val (.ref a1), .val (.int (1 : Int32)), .val (.ref a3), .val (.int (1 : Int32)), .val (.int (2 : Int32)), .val (.int (1 : Int32)), .val (.int (g_a1f 0))] [(.ref a1)]))
  refine Go.step (fun t k => XS.iloadN X6.here hx rfl (hb hby d6_11) rfl k) ?_
  show Go p e below _ (T6.setTop (mkF m 12 #[.val (.ref a1), .val (.int (1 : Int32)), .val (.ref a3), .val (.int (1 : Int32)), .val (.int (2 : Int32)), .val (.int (1 : Int32)), .val (.int (g_a1f 0))] [(.int (1 : Int32)), (.ref a1)]))
  refine Go.step (ldC X6 hx hZ e6 A_a1_6 (j := (1 : Int32)) (by decide) (by decide) (g := (mkF m 12 #[.val (.ref a1), .val (.int (1 : Int32)), .val (.ref a3), .val (.int (1 : Int32)), .val (.int (2 : Int32)), .val (.int (1 : Int32)), .val (.int (g_a1f 0))] [(.int (1 : Int32)), (.ref a1)])) rfl rfl (hb hby d6_12)) ?_
  show Go p e below _ (T6.setTop (mkF m 13 #[.val (.ref a1), .val (.int (1 : Int32)), .val (.ref a3), .val (.int (1 : Int32)), .val (.int (2 : Int32)), .val (.int (1 : Int32)), .val (.int (g_a1f 0))] [(.int (g_a1f 1))]))
  refine Go.step (fun t k => XS.istore X6.here hx rfl (hb hby d6_13) rfl (l' := #[.val (.ref a1), .val (.int (1 : Int32)), .val (.ref a3), .val (.int (1 : Int32)), .val (.int (2 : Int32)), .val (.int (1 : Int32)), .val (.int (g_a1f 1))]) rfl k) ?_
  show Go p e below _ (T6.setTop (mkF m 15 #[.val (.ref a1), .val (.int (1 : Int32)), .val (.ref a3), .val (.int (1 : Int32)), .val (.int (2 : Int32)), .val (.int (1 : Int32)), .val (.int (g_a1f 1))] []))
  refine Go.step (fun t k => XS.iload X6.here hx rfl (hb hby d6_15) rfl k) ?_
  show Go p e below _ (T6.setTop (mkF m 17 #[.val (.ref a1), .val (.int (1 : Int32)), .val (.ref a3), .val (.int (1 : Int32)), .val (.int (2 : Int32)), .val (.int (1 : Int32)), .val (.int (g_a1f 1))] [(.int (g_a1f 1))]))
  refine Go.step (fun t k => XS.sipush X6.here hx rfl (hb hby d6_17)  k) ?_
  show Go p e below _ (T6.setTop (mkF m 20 #[.val (.ref a1), .val (.int (1 : Int32)), .val (.ref a3), .val (.int (1 : Int32)), .val (.int (2 : Int32)), .val (.int (1 : Int32)), .val (.int (g_a1f 1))] [(.int (255 : Int32)), (.int (g_a1f 1))]))
  refine Go.step (fun t k => XS.icmpYes X6.here hx rfl (pc0 := 20) (pc' := 26) rfl (hb hby d6_20) rfl (flt hp20_x2).2.2.2 (by decide) (by decide) k) ?_
  show Go p e below _ (T6.setTop (mkF m 26 #[.val (.ref a1), .val (.int (1 : Int32)), .val (.ref a3), .val (.int (1 : Int32)), .val (.int (2 : Int32)), .val (.int (1 : Int32)), .val (.int (g_a1f 1))] []))
  refine Go.step (fun t k => XS.aloadN X6.here hx rfl (hb hby d6_26) rfl rfl k) ?_
  show Go p e below _ (T6.setTop (mkF m 27 #[.val (.ref a1), .val (.int (1 : Int32)), .val (.ref a3), .val (.int (1 : Int32)), .val (.int (2 : Int32)), .val (.int (1 : Int32)), .val (.int (g_a1f 1))] [(.ref a3)]))
  refine Go.step (fun t k => XS.iloadN X6.here hx rfl (hb hby d6_27) rfl k) ?_
  show Go p e below _ (T6.setTop (mkF m 28 #[.val (.ref a1), .val (.int (1 : Int32)), .val (.ref a3), .val (.int (1 : Int32)), .val (.int (2 : Int32)), .val (.int (1 : Int32)), .val (.int (g_a1f 1))] [(.int (1 : Int32)), (.ref a3)]))
  refine Go.step (fun t k => XS.iload X6.here hx rfl (hb hby d6_28) rfl k) ?_
  show Go p e below _ (T6.setTop (mkF m 30 #[.val (.ref a1), .val (.int (1 : Int32)), .val (.ref a3), .val (.int (1 : Int32)), .val (.int (2 : Int32)), .val (.int (1 : Int32)), .val (.int (g_a1f 1))] [(.int (g_a1f 1)), (.int (1 : Int32)), (.ref a3)]))
  refine Go.step (fun t k => XS.i2b X6.here hx rfl (hb hby d6_30) rfl k) ?_
  show Go p e below _ (T6.setTop (mkF m 31 #[.val (.ref a1), .val (.int (1 : Int32)), .val (.ref a3), .val (.int (1 : Int32)), .val (.int (2 : Int32)), .val (.int (1 : Int32)), .val (.int (g_a1f 1))] [(.int ((g_a1f 1).toInt8.toInt32)), (.int (1 : Int32)), (.ref a3)]))
  obtain ⟨cl7, Ar7, in7, -⟩ := A_a3_6.hin (j := (1 : Int32)) (by decide) (by decide)
  obtain ⟨T7, h7, X7, e7, W7, st7⟩ := stB X6 hx hZ e6 Ar7 in7 (g := (mkF m 31 #[.val (.ref a1), .val (.int (1 : Int32)), .val (.ref a3), .val (.int (1 : Int32)), .val (.int (2 : Int32)), .val (.int (1 : Int32)), .val (.int (g_a1f 1))] [(.int ((g_a1f 1).toInt8.toInt32)), (.int (1 : Int32)), (.ref a3)])) rfl rfl (hb hby d6_31)
  refine Go.step st7 ?_
  have N7 := Fr.snoc X7 N6 g_a3
  have A_a1_7 := A_a1_6.other W7 hne_a1_a3
  have Z7 := Nat.le_trans Z6 (Keep.of_wr W7).1
  have KK7 : Keep h0 h7 [a3] := KK6.wr W7 (Or.inl (by simp))
  clear A_a1_6 Z6 KK6
  have A_a3_7 : Ary Z h7 a3 .byte 2 (fun i => .int ((upA (upA g_a3f 0 (nar .byte ((g_a1f 0).toInt8.toInt32))) 1 (nar .byte ((g_a1f 1).toInt8.toInt32))) i)) := A_a3_6.setI W7 (by decide)
  show Go p e below _ (T7.setTop (mkF m 32 #[.val (.ref a1), .val (.int (1 : Int32)), .val (.ref a3), .val (.int (1 : Int32)), .val (.int (2 : Int32)), .val (.int (1 : Int32)), .val (.int (g_a1f 1))] []))
  refine Go.step (fun t k => XS.iinc X7.here hx rfl (hb hby d6_32) rfl (l' := #[.val (.ref a1), .val (.int (2 : Int32)), .val (.ref a3), .val (.int (1 : Int32)), .val (.int (2 : Int32)), .val (.int (1 : Int32)), .val (.int (g_a1f 1))]) rfl k) ?_
  show Go p e below _ (T7.setTop (mkF m 35 #[.val (.ref a1), .val (.int (2 : Int32)), .val (.ref a3), .val (.int (1 : Int32)), .val (.int (2 : Int32)), .val (.int (1 : Int32)), .val (.int (g_a1f 1))] []))
  refine Go.step (fun t k => XS.iinc X7.here hx rfl (hb hby d6_35) rfl (l' := #[.val (.ref a1), .val (.int (2 : Int32)), .val (.ref a3), .val (.int (2 : Int32)), .val (.int (2 : Int32)), .val (.int (1 : Int32)), .val (.int (g_a1f 1))]) rfl k) ?_
  show Go p e below _ (T7.setTop (mkF m 38 #[.val (.ref a1), .val (.int (2 : Int32)), .val (.ref a3), .val (.int (2 : Int32)), .val (.int (2 : Int32)), .val (.int (1 : Int32)), .val (.int (g_a1f 1))] []))
  refine Go.step (fun t k => XS.iinc X7.here hx rfl (hb hby d6_38) rfl (l' := #[.val (.ref a1), .val (.int (2 : Int32)), .val (.ref a3), .val (.int (2 : Int32)), .val (.int (2 : Int32)), .val (.int (2 : Int32)), .val (.int (g_a1f 1))]) rfl k) ?_
  show Go p e below _ (T7.setTop (mkF m 41 #[.val (.ref a1), .val (.int (2 : Int32)), .val (.ref a3), .val (.int (2 : Int32)), .val (.int (2 : Int32)), .val (.int (2 : Int32)), .val (.int (g_a1f 1))] []))
  refine Go.step (fun t k => XS.goto X7.here hx rfl (pc0 := 41) (pc' := 3) rfl (hb hby d6_41) (by decide) (by decide) k) ?_
  show Go p e below _ (T7.setTop (mkF m 3 #[.val (.ref a1), .val (.int (2 : Int32)), .val (.ref a3), .val (.int (2 : Int32)), .val (.int (2 : Int32)), .val (.int (2 : Int32)), .val (.int (g_a1f 1))] []))
  refine Go.step (fun t k => XS.iload X7.here hx rfl (hb hby d6_3) rfl k) ?_
  show Go p e below _ (T7.setTop (mkF m 5 #[.val (.ref a1), .val (.int (2 : Int32)), .val (.ref a3), .val (.int (2 : Int32)), .val (.int (2 : Int32)), .val (.int (2 : Int32)), .val (.int (g_a1f 1))] [(.int (2 : Int32))]))
  refine Go.step (fun t k => XS.iload X7.here hx rfl (hb hby d6_5) rfl k) ?_
  show Go p e below _ (T7.setTop (mkF m 7 #[.val (.ref a1), .val (.int (2 : Int32)), .val (.ref a3), .val (.int (2 : Int32)), .val (.int (2 : Int32)), .val (.int (2 : Int32)), .val (.int (g_a1f 1))] [(.int (2 : Int32)), (.int (2 : Int32))]))
  refine Go.step (fun t k => XS.icmpYes X7.here hx rfl (pc0 := 7) (pc' := 44) rfl (hb hby d6_7) rfl (flt (by decide : ¬ ((2 : Int32) < (2 : Int32)))).2.1 (by decide) (by decide) k) ?_
  show Go p e below _ (T7.setTop (mkF m 44 #[.val (.ref a1), .val (.int (2 : Int32)), .val (.ref a3), .val (.int (2 : Int32)), .val (.int (2 : Int32)), .val (.int (2 : Int32)), .val (.int (g_a1f 1))] []))
  refine Go.step (fun t k => XS.iload X7.here hx rfl (hb hby d6_44) rfl k) ?_
  show Go p e below _ (T7.setTop (mkF m 46 #[.val (.ref a1), .val (.int (2 : Int32)), .val (.ref a3), .val (.int (2 : Int32)), .val (.int (2 : Int32)), .val (.int (2 : Int32)), .val (.int (g_a1f 1))] [(.int (2 : Int32))]))
  refine retGI X7 hx Bd.notSynchronized Bd.returns (hb hby d6_46) ?_ (by decide) (by decide)
  show Q6_2 Z a1 a3 g_a1f g_a3f h0 n0 _ T7.heap _
  rw [e7]
  exact ⟨rfl, N7, KK7, A_a3_7⟩
theorem ef_5_2 (m : MethodId) (a1 : Addr) : entryFrame m #[(.ref a1), (.int (0 : Int32)), (.int (2 : Int32))] 6 = mkF m 0 #[.val (.ref a1), .val (.int (0 : Int32)), .val (.int (2 : Int32)), .unset, .unset, .unset] [] := by first | (simp [entryFrame, mkF, argsToLocals, Value.category]; done) | rfl
def Q5_2 (Z : State) (a1 : Addr) (g_a1f : Nat → Int32) (h0 : Heap) (n0 : Nat) (v : Option Value) (h : Heap) (L : List Loc) : Prop := ∃ (b4 : Addr), v = some (.ref b4) ∧ Fr n0 L ∧ Keep h0 h [] ∧ h0.size ≤ b4 ∧ Ary Z h b4 .byte 2 (fun i => .int ((upA (upA (fun _ => (0 : Int32)) 0 (nar .byte ((g_a1f 0).toInt8.toInt32))) 1 (nar .byte ((g_a1f 1).toInt8.toInt32))) i))
set_option maxRecDepth 65536 in
set_option maxHeartbeats 40000000 in
theorem rm5_2 (l : Launch) (Z : State) (a0 : Array Value) (hw : ∀ d ∈ tables_1, d.before a0 Z = true) (ws : List Jvm.Cond) (a1 : Addr) (g_a1f : Nat → Int32) (h0 : Heap) (n0 : Nat) (Z0 : n0 ≤ h0.size) (A_a1 : Ary Z h0 a1 .char 2 (fun i => .int (g_a1f i))) (hp9_hp20 : ¬ ((255 : Int32) < (g_a1f 0))) (hp9_hp20_x2 : ¬ ((255 : Int32) < (g_a1f 1))) :
    MetFree l (⟨"java/lang/StringUTF16", "compress", "([CII)[B"⟩ : MethodName) (head1 (Jvm.Cond.code (⟨"java/lang/StringUTF16", "compress", "([CII)[B"⟩ : MethodName) jdk_52_method_16_code 6 (some (.array .byte)) :: ws) ({ frames := 1, cells := 1, slots := 2, locals := 18 } : Room)) (fun a U => a = #[(.ref a1), (.int (0 : Int32)), (.int (2 : Int32))] ∧ Z.Warmed39 U.vm ∧ U.heap = h0) (fun _ _ _ _ _ => True) (fun _ U o U' => ∃ v L, o = .returned v ∧ Q5_2 Z a1 g_a1f h0 n0 v U'.heap L ∧ FrameEnd U o U' L ({ frames := 1, cells := 1, slots := 2, locals := 18 } : Room).cells ({ frames := 1, cells := 1, slots := 2, locals := 18 } : Room).slots) := by
  refine MetFree.of_bodySF (plainFor_of_name pn_0) hisR ?_
  intro p e s m args below meth c s₁ Bd hml0 hP hK
  obtain ⟨rfl, hZ, hh⟩ := hP
  have hx := Bd.exec
  have hby := Bd.bytes
  have hml : c.maxLocals = 6 := hml0
  have hown : s.vm.findClass "java/lang/StringUTF16" = some m.cls := findClass_of_methodNamed Bd.named
  have hnm := (name_of_methodNamed Bd.named Bd.method).1
  have X0 : Stand p l e ({ frames := 1, cells := 1, slots := 2, locals := 18 } : Room) s m #[(.ref a1), (.int (0 : Int32)), (.int (2 : Int32))] below meth c s₁ [] 0 0 := Stand.of_body Bd
  have e0 : s₁.heap = h0 := by rw [← hh, Bd.state]; rfl
  have N0 := Fr.nil n0
  refine Go.done (Go.step (fun t k => castTop (ef_5_2 m a1) k) ?_)
  have KK0 : Keep h0 h0 [] := Keep.refl _ _
  show Go p e below _ (s₁.setTop (mkF m 0 #[.val (.ref a1), .val (.int (0 : Int32)), .val (.int (2 : Int32)), .unset, .unset, .unset] []))
  refine Go.step (fun t k => XS.iloadN X0.here hx rfl (hb hby d5_0) rfl k) ?_
  show Go p e below _ (s₁.setTop (mkF m 1 #[.val (.ref a1), .val (.int (0 : Int32)), .val (.int (2 : Int32)), .unset, .unset, .unset] [(.int (2 : Int32))]))
  obtain ⟨T4, h4, k4, X4, e4, E4, A4, st4⟩ := newP X0 hx hZ (hw _ (List.mem_of_getElem? (i := 23) rfl)) e0 (g := (mkF m 1 #[.val (.ref a1), .val (.int (0 : Int32)), .val (.int (2 : Int32)), .unset, .unset, .unset] [(.int (2 : Int32))])) rfl (hb hby d5_1) rfl (by decide) (cap := 2) (by decide) (by decide) (by decide) (by decide)
  obtain ⟨b4, g4⟩ : ∃ z, z = h0.size := ⟨_, rfl⟩
  rw [← g4] at A4 st4
  have g_b4 : n0 ≤ b4 := Nat.le_trans Z0 (Nat.le_of_eq g4.symm)
  have sz_b4 : h0.size ≤ b4 := Nat.le_trans KK0.1 (Nat.le_of_eq g4.symm)
  have ne_a1_b4 : a1 ≠ b4 := Nat.ne_of_lt (Nat.lt_of_lt_of_le A_a1.lt (Nat.le_of_eq g4.symm))
  refine Go.step st4 ?_
  have A_a1_4 := A_a1.ext E4
  have Z4 := Nat.le_trans Z0 E4.1
  have KK4 : Keep h0 h4 [] := KK0.ext E4
  clear A_a1 Z0 KK0 E4
  have A_b4_4 : Ary Z h4 b4 .byte 2 (fun i => .int ((fun _ => (0 : Int32)) i)) := Ary.mk A4 (by decide) (by decide)
  replace X4 : Stand p l e ({ frames := 1, cells := 1, slots := 2, locals := 18 } : Room) s m #[(.ref a1), (.int (0 : Int32)), (.int (2 : Int32))] below meth c T4 _ 1 2 := X4
  show Go p e below _ (T4.setTop (mkF m 3 #[.val (.ref a1), .val (.int (0 : Int32)), .val (.int (2 : Int32)), .unset, .unset, .unset] [(.ref b4)]))
  refine Go.step (fun t k => XS.astoreN X4.here hx rfl (hb hby d5_3) rfl rfl (l' := #[.val (.ref a1), .val (.int (0 : Int32)), .val (.int (2 : Int32)), .val (.ref b4), .unset, .unset]) rfl k) ?_
  show Go p e below _ (T4.setTop (mkF m 4 #[.val (.ref a1), .val (.int (0 : Int32)), .val (.int (2 : Int32)), .val (.ref b4), .unset, .unset] []))
  refine Go.step (fun t k => XS.aloadN X4.here hx rfl (hb hby d5_4) rfl rfl k) ?_
  show Go p e below _ (T4.setTop (mkF m 5 #[.val (.ref a1), .val (.int (0 : Int32)), .val (.int (2 : Int32)), .val (.ref b4), .unset, .unset] [(.ref a1)]))
  refine Go.step (fun t k => XS.iloadN X4.here hx rfl (hb hby d5_5) rfl k) ?_
  show Go p e below _ (T4.setTop (mkF m 6 #[.val (.ref a1), .val (.int (0 : Int32)), .val (.int (2 : Int32)), .val (.ref b4), .unset, .unset] [(.int (0 : Int32)), (.ref a1)]))
  refine Go.step (fun t k => XS.aloadN X4.here hx rfl (hb hby d5_6) rfl rfl k) ?_
  show Go p e below _ (T4.setTop (mkF m 7 #[.val (.ref a1), .val (.int (0 : Int32)), .val (.int (2 : Int32)), .val (.ref b4), .unset, .unset] [(.ref b4), (.int (0 : Int32)), (.ref a1)]))
  refine Go.step (fun t k => XS.iconst X4.here hx rfl (hb hby d5_7)  k) ?_
  show Go p e below _ (T4.setTop (mkF m 8 #[.val (.ref a1), .val (.int (0 : Int32)), .val (.int (2 : Int32)), .val (.ref b4), .unset, .unset] [(.int (0 : Int32)), (.ref b4), (.int (0 : Int32)), (.ref a1)]))
  refine Go.step (fun t k => XS.iloadN X4.here hx rfl (hb hby d5_8) rfl k) ?_
  show Go p e below _ (T4.setTop (mkF m 9 #[.val (.ref a1), .val (.int (0 : Int32)), .val (.int (2 : Int32)), .val (.ref b4), .unset, .unset] [(.int (2 : Int32)), (.int (0 : Int32)), (.ref b4), (.int (0 : Int32)), (.ref a1)]))
  obtain ⟨_, _, ⟨T5, L5, k5, n5⟩, -, X5, ⟨Lc5, hQ5, l5, y5, z5⟩, st5⟩ := Jvm.LawKit.callS X4 hx (y := (⟨"java/lang/StringUTF16", "compress", "([CI[BII)I"⟩ : MethodName)) hown (mvT hZ (hw _ (List.mem_of_getElem? (i := 24) rfl))) (mvT hZ (hw _ (List.mem_of_getElem? (i := 25) rfl))) (mvT hZ (hw _ (List.mem_of_getElem? (i := 21) rfl))) (mvT hZ (hw _ (List.mem_of_getElem? (i := 26) rfl))) (by decide) (backOf (W := 0) (rm6_2 l Z a0 hw [] a1 b4 g_a1f (fun _ => (0 : Int32)) h4 n0 Z4 A_a1_4 A_b4_4 hp9_hp20 g_b4 ne_a1_b4 hp9_hp20_x2) hZ (hw _ (List.mem_of_getElem? (i := 26) rfl)) (hw _ (List.mem_of_getElem? (i := 21) rfl)) (by decide) (by decide)) (g := (mkF m 9 #[.val (.ref a1), .val (.int (0 : Int32)), .val (.int (2 : Int32)), .val (.ref b4), .unset, .unset] [(.int (2 : Int32)), (.int (0 : Int32)), (.ref b4), (.int (0 : Int32)), (.ref a1)])) rfl (by rw [hml]; rfl) (argsL := [(.ref a1), (.int (0 : Int32)), (.ref b4), (.int (0 : Int32)), (.int (2 : Int32))]) (rest := []) (lenOf pd_0 rfl) rfl (by show 2 * 0 + _ ≤ _; exact Nat.le_of_eq rfl) (hb hby d5_9) (fun _ _ => ⟨rfl, e4, (by decide : 1 + 0 ≤ _), (by decide : 2 + 0 ≤ _)⟩)
  dsimp only [Pt.U, Pt.locs, Pt.cells, Pt.slots] at X5 l5 y5 z5 st5 hQ5
  replace y5 : k5 = 1 := y5
  replace z5 : n5 = 2 := z5
  subst y5 z5
  obtain ⟨rfl, N5q, K5, Q5_0⟩ := hQ5
  have N5 : Fr n0 L5 := Eq.mpr (congrArg (Fr n0) l5) (Fr.app N0 N5q)
  have A_a1_5 := A_a1_4.keep K5 (ninS ne_a1_b4 nin0)
  have Z5 := Nat.le_trans Z4 K5.1
  have KK5 : Keep h0 T5.heap [] := KK4.trans K5 (allS (Or.inr sz_b4) all0)
  clear A_a1_4 Z4 KK4 K5
  refine Go.step st5 ?_
  show Go p e below _ (T5.setTop (mkF m 12 #[.val (.ref a1), .val (.int (0 : Int32)), .val (.int (2 : Int32)), .val (.ref b4), .unset, .unset] [(.int (2 : Int32))]))
  refine Go.step (fun t k => XS.istore X5.here hx rfl (hb hby d5_12) rfl (l' := #[.val (.ref a1), .val (.int (0 : Int32)), .val (.int (2 : Int32)), .val (.ref b4), .val (.int (2 : Int32)), .unset]) rfl k) ?_
  show Go p e below _ (T5.setTop (mkF m 14 #[.val (.ref a1), .val (.int (0 : Int32)), .val (.int (2 : Int32)), .val (.ref b4), .val (.int (2 : Int32)), .unset] []))
  refine Go.step (fun t k => XS.iload X5.here hx rfl (hb hby d5_14) rfl k) ?_
  show Go p e below _ (T5.setTop (mkF m 16 #[.val (.ref a1), .val (.int (0 : Int32)), .val (.int (2 : Int32)), .val (.ref b4), .val (.int (2 : Int32)), .unset] [(.int (2 : Int32))]))
  refine Go.step (fun t k => XS.iloadN X5.here hx rfl (hb hby d5_16) rfl k) ?_
  show Go p e below _ (T5.setTop (mkF m 17 #[.val (.ref a1), .val (.int (0 : Int32)), .val (.int (2 : Int32)), .val (.ref b4), .val (.int (2 : Int32)), .unset] [(.int (2 : Int32)), (.int (2 : Int32))]))
  refine Go.step (fun t k => XS.icmpYes X5.here hx rfl (pc0 := 17) (pc' := 57) rfl (hb hby d5_17) rfl (teq (rfl : (2 : Int32) = (2 : Int32))).1 (by decide) (by decide) k) ?_
  show Go p e below _ (T5.setTop (mkF m 57 #[.val (.ref a1), .val (.int (0 : Int32)), .val (.int (2 : Int32)), .val (.ref b4), .val (.int (2 : Int32)), .unset] []))
  refine Go.step (fun t k => XS.aloadN X5.here hx rfl (hb hby d5_57) rfl rfl k) ?_
  show Go p e below _ (T5.setTop (mkF m 58 #[.val (.ref a1), .val (.int (0 : Int32)), .val (.int (2 : Int32)), .val (.ref b4), .val (.int (2 : Int32)), .unset] [(.ref b4)]))
  refine retGR X5 hx Bd.notSynchronized Bd.returns rfl rfl (hb hby d5_58) ?_ (by decide) (by decide)
  show Q5_2 Z a1 g_a1f h0 n0 _ T5.heap _
  exact ⟨b4, rfl, N5, KK5, sz_b4, Q5_0⟩
theorem ef_7_2 (m : MethodId) (a1 : Addr) : entryFrame m #[(.ref a1), (.int (2 : Int32))] 2 = mkF m 0 #[.val (.ref a1), .val (.int (2 : Int32))] [] := by first | (simp [entryFrame, mkF, argsToLocals, Value.category]; done) | rfl
def f7_2 (g_a1f : Nat → Int32) : Int32 := (0 : Int32)
set_option maxRecDepth 65536 in
set_option maxHeartbeats 40000000 in
theorem rm7_2 (l : Launch) (Z : State) (a0 : Array Value) (hw : ∀ d ∈ tables_1, d.before a0 Z = true) (ws : List Jvm.Cond) (a1 : Addr) (g_a1f : Nat → Int32) (h0 : Heap) (n0 : Nat) (Z0 : n0 ≤ h0.size) (A_a1 : Ary Z h0 a1 .byte 2 (fun i => .int (g_a1f i))) :
    MetFree l (⟨"java/lang/StringUTF16", "coderFromArrayLen", "([BI)B"⟩ : MethodName) (head1 (Jvm.Cond.code (⟨"java/lang/StringUTF16", "coderFromArrayLen", "([BI)B"⟩ : MethodName) jdk_52_method_15_code 2 (some .byte) :: ws) ({ frames := 0, cells := 0, slots := 0, locals := 0 } : Room)) (fun a U => a = #[(.ref a1), (.int (2 : Int32))] ∧ Z.Warmed39 U.vm ∧ U.heap = h0) (fun _ _ _ _ _ => True) (fun _ U o U' => ∃ v L, o = .returned v ∧ QP (.int (f7_2 g_a1f)) h0 n0 v U'.heap L ∧ FrameEnd U o U' L ({ frames := 0, cells := 0, slots := 0, locals := 0 } : Room).cells ({ frames := 0, cells := 0, slots := 0, locals := 0 } : Room).slots) := by
  refine MetFree.of_bodySF (plainFor_of_name pn_0) hisR ?_
  intro p e s m args below meth c s₁ Bd hml0 hP hK
  obtain ⟨rfl, hZ, hh⟩ := hP
  have hx := Bd.exec
  have hby := Bd.bytes
  have hml : c.maxLocals = 2 := hml0
  have hown : s.vm.findClass "java/lang/StringUTF16" = some m.cls := findClass_of_methodNamed Bd.named
  have hnm := (name_of_methodNamed Bd.named Bd.method).1
  have X0 : Stand p l e ({ frames := 0, cells := 0, slots := 0, locals := 0 } : Room) s m #[(.ref a1), (.int (2 : Int32))] below meth c s₁ [] 0 0 := Stand.of_body Bd
  have e0 : s₁.heap = h0 := by rw [← hh, Bd.state]; rfl
  have N0 := Fr.nil n0
  refine Go.done (Go.step (fun t k => castTop (ef_7_2 m a1) k) ?_)
  have KK0 : Keep h0 h0 [] := Keep.refl _ _
  show Go p e below _ (s₁.setTop (mkF m 0 #[.val (.ref a1), .val (.int (2 : Int32))] []))
  refine Go.step (fun t k => XS.iloadN X0.here hx rfl (hb hby d7_0) rfl k) ?_
  show Go p e below _ (s₁.setTop (mkF m 1 #[.val (.ref a1), .val (.int (2 : Int32))] [(.int (2 : Int32))]))
  refine Go.step (fun t k => XS.aloadN X0.here hx rfl (hb hby d7_1) rfl rfl k) ?_
  show Go p e below _ (s₁.setTop (mkF m 2 #[.val (.ref a1), .val (.int (2 : Int32))] [(.ref a1), (.int (2 : Int32))]))
  refine Go.step (lenA X0 hx hZ e0 A_a1 (g := (mkF m 2 #[.val (.ref a1), .val (.int (2 : Int32))] [(.ref a1), (.int (2 : Int32))])) rfl rfl (hb hby d7_2)) ?_
  show Go p e below _ (s₁.setTop (mkF m 3 #[.val (.ref a1), .val (.int (2 : Int32))] [(.int (2 : Int32)), (.int (2 : Int32))]))
  refine Go.step (fun t k => XS.isub X0.here hx rfl (hb hby d7_3) rfl k) ?_
  show Go p e below _ (s₁.setTop (mkF m 4 #[.val (.ref a1), .val (.int (2 : Int32))] [(.int (0 : Int32))]))
  refine Go.step (fun t k => XS.bipush X0.here hx rfl (hb hby d7_4)  k) ?_
  show Go p e below _ (s₁.setTop (mkF m 6 #[.val (.ref a1), .val (.int (2 : Int32))] [(.int (31 : Int32)), (.int (0 : Int32))]))
  refine Go.step (fun t k => XS.iushr X0.here hx rfl (hb hby d7_6) rfl k) ?_
  show Go p e below _ (s₁.setTop (mkF m 7 #[.val (.ref a1), .val (.int (2 : Int32))] [(.int (0 : Int32))]))
  refine Go.step (fun t k => XS.i2b X0.here hx rfl (hb hby d7_7) rfl k) ?_
  show Go p e below _ (s₁.setTop (mkF m 8 #[.val (.ref a1), .val (.int (2 : Int32))] [(.int (0 : Int32))]))
  exact retGN X0 hx Bd.notSynchronized Bd.returns (t := .byte) (by simp) (z' := (0 : Int32)) rfl (hb hby d7_8) ⟨by first | rfl | (simp only [f7_2]; done) | (simp [f7_2]; done), N0, e0⟩ (by decide) (by decide)
theorem ef_3_2 (m : MethodId) (a1 : Addr) (a2 : Addr) : entryFrame m #[(.ref a1), (.ref a2), (.int (0 : Int32)), (.int (2 : Int32)), .null] 6 = mkF m 0 #[.val (.ref a1), .val (.ref a2), .val (.int (0 : Int32)), .val (.int (2 : Int32)), .val .null, .unset] [] := by first | (simp [entryFrame, mkF, argsToLocals, Value.category]; done) | rfl
def Q3_2 (Z : State) (a1 : Addr) (a2 : Addr) (g_a2f : Nat → Int32) (u_coder_a1 : Value) (u_value_a1 : Value) (wC : Int32) (h0 : Heap) (n0 : Nat) (v : Option Value) (h : Heap) (L : List Loc) : Prop := v = none ∧ Fr n0 L ∧ Keep h0 h [a1] ∧ Exa Z h a1 "java/lang/String" ∧ Fld Z h a1 "java/lang/String" "coder" "B" (.int (0 : Int32))
set_option maxRecDepth 65536 in
set_option maxHeartbeats 40000000 in
theorem rm3_2 (l : Launch) (Z : State) (a0 : Array Value) (hw : ∀ d ∈ tables_1, d.before a0 Z = true) (ws : List Jvm.Cond) (a1 : Addr) (a2 : Addr) (g_a2f : Nat → Int32) (u_coder_a1 : Value) (u_value_a1 : Value) (wC : Int32) (h0 : Heap) (n0 : Nat) (Z0 : n0 ≤ h0.size) (A_a2 : Ary Z h0 a2 .char 2 (fun i => .int (g_a2f i))) (E_a1 : Exa Z h0 a1 "java/lang/String") (F_coder_a1 : Fld Z h0 a1 "java/lang/String" "coder" "B" u_coder_a1) (F_value_a1 : Fld Z h0 a1 "java/lang/String" "value" "[B" u_value_a1) (hC : ¬ (wC = (0 : Int32))) (S_COMPACT_STRINGS : Sta Z Z.heap "java/lang/String" "COMPACT_STRINGS" "Z" (.int wC)) (hO : Old Z n0 h0) (hp36_hp9_hp20 : ¬ ((255 : Int32) < (g_a2f 0))) (hp36_hp9_hp20_x2 : ¬ ((255 : Int32) < (g_a2f 1))) (g_a1 : n0 ≤ a1) (hne_a2_a1 : a2 ≠ a1) :
    MetFree l (⟨"java/lang/String", "<init>", "([CIILjava/lang/Void;)V"⟩ : MethodName) (head1 (Jvm.Cond.code (⟨"java/lang/String", "<init>", "([CIILjava/lang/Void;)V"⟩ : MethodName) jdk_42_method_149_code 6 none :: ws) ({ frames := 2, cells := 1, slots := 2, locals := 35 } : Room)) (fun a U => a = #[(.ref a1), (.ref a2), (.int (0 : Int32)), (.int (2 : Int32)), .null] ∧ Z.Warmed39 U.vm ∧ U.heap = h0) (fun _ _ _ _ _ => True) (fun _ U o U' => ∃ v L, o = .returned v ∧ Q3_2 Z a1 a2 g_a2f u_coder_a1 u_value_a1 wC h0 n0 v U'.heap L ∧ FrameEnd U o U' L ({ frames := 2, cells := 1, slots := 2, locals := 35 } : Room).cells ({ frames := 2, cells := 1, slots := 2, locals := 35 } : Room).slots) := by
  refine MetFree.of_bodySF (plainFor_of_name pn_1) hisR ?_
  intro p e s m args below meth c s₁ Bd hml0 hP hK
  obtain ⟨rfl, hZ, hh⟩ := hP
  have hx := Bd.exec
  have hby := Bd.bytes
  have hml : c.maxLocals = 6 := hml0
  have hown : s.vm.findClass "java/lang/String" = some m.cls := findClass_of_methodNamed Bd.named
  have hnm := (name_of_methodNamed Bd.named Bd.method).1
  have X0 : Stand p l e ({ frames := 2, cells := 1, slots := 2, locals := 35 } : Room) s m #[(.ref a1), (.ref a2), (.int (0 : Int32)), (.int (2 : Int32)), .null] below meth c s₁ [] 0 0 := Stand.of_body Bd
  have e0 : s₁.heap = h0 := by rw [← hh, Bd.state]; rfl
  have N0 := Fr.nil n0
  refine Go.done (Go.step (fun t k => castTop (ef_3_2 m a1 a2) k) ?_)
  have KK0 : Keep h0 h0 [a1] := Keep.refl _ _
  show Go p e below _ (s₁.setTop (mkF m 0 #[.val (.ref a1), .val (.ref a2), .val (.int (0 : Int32)), .val (.int (2 : Int32)), .val .null, .unset] []))
  refine Go.step (fun t k => XS.aloadN X0.here hx rfl (hb hby d3_0) rfl rfl k) ?_
  show Go p e below _ (s₁.setTop (mkF m 1 #[.val (.ref a1), .val (.ref a2), .val (.int (0 : Int32)), .val (.int (2 : Int32)), .val .null, .unset] [(.ref a1)]))
  obtain ⟨T6, X6, e6, st6⟩ := initO X0 hx hZ hown (hw _ (List.mem_of_getElem? (i := 15) rfl)) (hw _ (List.mem_of_getElem? (i := 16) rfl)) (hw _ (List.mem_of_getElem? (i := 17) rfl)) e0 (g := (mkF m 1 #[.val (.ref a1), .val (.ref a2), .val (.int (0 : Int32)), .val (.int (2 : Int32)), .val .null, .unset] [(.ref a1)])) rfl (by rw [hml]; rfl) rfl (hb hby d3_1) (by decide) (W := 0) (by show 2 * 0 + _ ≤ _; exact Nat.le_of_eq rfl) (by decide)
  refine Go.step st6 ?_
  show Go p e below _ (T6.setTop (mkF m 4 #[.val (.ref a1), .val (.ref a2), .val (.int (0 : Int32)), .val (.int (2 : Int32)), .val .null, .unset] []))
  refine Go.step (fun t k => XS.iloadN X6.here hx rfl (hb hby d3_4) rfl k) ?_
  show Go p e below _ (T6.setTop (mkF m 5 #[.val (.ref a1), .val (.ref a2), .val (.int (0 : Int32)), .val (.int (2 : Int32)), .val .null, .unset] [(.int (2 : Int32))]))
  refine Go.step (fun t k => XS.ifYes X6.here hx rfl (pc0 := 5) (pc' := 27) rfl (hb hby d3_5) rfl ((if0 _ _).trans (feq (by decide : ¬ ((2 : Int32) = (0 : Int32)))).2) (by decide) (by decide) k) ?_
  show Go p e below _ (T6.setTop (mkF m 27 #[.val (.ref a1), .val (.ref a2), .val (.int (0 : Int32)), .val (.int (2 : Int32)), .val .null, .unset] []))
  obtain ⟨T7, X7, e7, st7⟩ := getS2 X6 hx hZ hown (host := "") (Or.inl (hw _ (List.mem_of_getElem? (i := 18) rfl))) Via.refl e6 (S_COMPACT_STRINGS.ext hO.2) (g := (mkF m 27 #[.val (.ref a1), .val (.ref a2), .val (.int (0 : Int32)), .val (.int (2 : Int32)), .val .null, .unset] [])) rfl (hb hby d3_27)
  refine Go.step st7 ?_
  show Go p e below _ (T7.setTop (mkF m 30 #[.val (.ref a1), .val (.ref a2), .val (.int (0 : Int32)), .val (.int (2 : Int32)), .val .null, .unset] [(.int wC)]))
  refine Go.step (fun t k => XS.ifNo X7.here hx rfl (hb hby d3_30) rfl ((if0 _ _).trans (feq (hC : ¬ (wC = (0 : Int32)))).1) k) ?_
  show Go p e below _ (T7.setTop (mkF m 33 #[.val (.ref a1), .val (.ref a2), .val (.int (0 : Int32)), .val (.int (2 : Int32)), .val .null, .unset] []))
  refine Go.step (fun t k => XS.aloadN X7.here hx rfl (hb hby d3_33) rfl rfl k) ?_
  show Go p e below _ (T7.setTop (mkF m 34 #[.val (.ref a1), .val (.ref a2), .val (.int (0 : Int32)), .val (.int (2 : Int32)), .val .null, .unset] [(.ref a2)]))
  refine Go.step (fun t k => XS.iloadN X7.here hx rfl (hb hby d3_34) rfl k) ?_
  show Go p e below _ (T7.setTop (mkF m 35 #[.val (.ref a1), .val (.ref a2), .val (.int (0 : Int32)), .val (.int (2 : Int32)), .val .null, .unset] [(.int (0 : Int32)), (.ref a2)]))
  refine Go.step (fun t k => XS.iloadN X7.here hx rfl (hb hby d3_35) rfl k) ?_
  show Go p e below _ (T7.setTop (mkF m 36 #[.val (.ref a1), .val (.ref a2), .val (.int (0 : Int32)), .val (.int (2 : Int32)), .val .null, .unset] [(.int (2 : Int32)), (.int (0 : Int32)), (.ref a2)]))
  obtain ⟨_, _, ⟨T8, L8, k8, n8⟩, -, X8, ⟨Lc8, hQ8, l8, y8, z8⟩, st8⟩ := Jvm.LawKit.callS X7 hx (y := (⟨"java/lang/StringUTF16", "compress", "([CII)[B"⟩ : MethodName)) hown (mvT hZ (hw _ (List.mem_of_getElem? (i := 19) rfl))) (mvT hZ (hw _ (List.mem_of_getElem? (i := 20) rfl))) (mvT hZ (hw _ (List.mem_of_getElem? (i := 21) rfl))) (mvT hZ (hw _ (List.mem_of_getElem? (i := 22) rfl))) (by decide) (backOf (W := 0) (rm5_2 l Z a0 hw [] a2 g_a2f h0 n0 Z0 A_a2 hp36_hp9_hp20 hp36_hp9_hp20_x2) hZ (hw _ (List.mem_of_getElem? (i := 22) rfl)) (hw _ (List.mem_of_getElem? (i := 21) rfl)) (by decide) (by decide)) (g := (mkF m 36 #[.val (.ref a1), .val (.ref a2), .val (.int (0 : Int32)), .val (.int (2 : Int32)), .val .null, .unset] [(.int (2 : Int32)), (.int (0 : Int32)), (.ref a2)])) rfl (by rw [hml]; rfl) (argsL := [(.ref a2), (.int (0 : Int32)), (.int (2 : Int32))]) (rest := []) (lenOf pd_1 rfl) rfl (by show 2 * 0 + _ ≤ _; exact Nat.le_of_eq rfl) (hb hby d3_36) (fun _ _ => ⟨rfl, e7, (by decide : 0 + 1 ≤ _), (by decide : 0 + 2 ≤ _)⟩)
  dsimp only [Pt.U, Pt.locs, Pt.cells, Pt.slots] at X8 l8 y8 z8 st8 hQ8
  replace y8 : k8 = 1 := y8
  replace z8 : n8 = 2 := z8
  subst y8 z8
  obtain ⟨b8_0, rfl, N8q, K8, sz8_0, Q8_0⟩ := hQ8
  have N8 : Fr n0 L8 := Eq.mpr (congrArg (Fr n0) l8) (Fr.app N0 N8q)
  have g_b8_0 : n0 ≤ b8_0 := Nat.le_trans Z0 sz8_0
  have sz_b8_0 : h0.size ≤ b8_0 := Nat.le_trans KK0.1 sz8_0
  have ne_a2_b8_0 : a2 ≠ b8_0 := Nat.ne_of_lt (Nat.lt_of_lt_of_le A_a2.lt sz8_0)
  have ne_a1_b8_0 : a1 ≠ b8_0 := Nat.ne_of_lt (Nat.lt_of_lt_of_le E_a1.lt sz8_0)
  have A_a2_8 := A_a2.keep K8 nin0
  have E_a1_8 := E_a1.keep K8
  have F_coder_a1_8 := F_coder_a1.keep K8 nin0
  have F_value_a1_8 := F_value_a1.keep K8 nin0
  have O8 := hO.keep K8 all0
  have Z8 := Nat.le_trans Z0 K8.1
  have KK8 : Keep h0 T8.heap [a1] := KK0.trans K8 all0
  clear A_a2 E_a1 F_coder_a1 F_value_a1 hO Z0 KK0 K8
  refine Go.step st8 ?_
  show Go p e below _ (T8.setTop (mkF m 39 #[.val (.ref a1), .val (.ref a2), .val (.int (0 : Int32)), .val (.int (2 : Int32)), .val .null, .unset] [(.ref b8_0)]))
  refine Go.step (fun t k => XS.astore X8.here hx rfl (hb hby d3_39) rfl rfl (l' := #[.val (.ref a1), .val (.ref a2), .val (.int (0 : Int32)), .val (.int (2 : Int32)), .val .null, .val (.ref b8_0)]) rfl k) ?_
  show Go p e below _ (T8.setTop (mkF m 41 #[.val (.ref a1), .val (.ref a2), .val (.int (0 : Int32)), .val (.int (2 : Int32)), .val .null, .val (.ref b8_0)] []))
  refine Go.step (fun t k => XS.aloadN X8.here hx rfl (hb hby d3_41) rfl rfl k) ?_
  show Go p e below _ (T8.setTop (mkF m 42 #[.val (.ref a1), .val (.ref a2), .val (.int (0 : Int32)), .val (.int (2 : Int32)), .val .null, .val (.ref b8_0)] [(.ref a1)]))
  refine Go.step (fun t k => XS.aload X8.here hx rfl (hb hby d3_42) rfl rfl k) ?_
  show Go p e below _ (T8.setTop (mkF m 44 #[.val (.ref a1), .val (.ref a2), .val (.int (0 : Int32)), .val (.int (2 : Int32)), .val .null, .val (.ref b8_0)] [(.ref b8_0), (.ref a1)]))
  refine Go.step (fun t k => XS.iloadN X8.here hx rfl (hb hby d3_44) rfl k) ?_
  show Go p e below _ (T8.setTop (mkF m 45 #[.val (.ref a1), .val (.ref a2), .val (.int (0 : Int32)), .val (.int (2 : Int32)), .val .null, .val (.ref b8_0)] [(.int (2 : Int32)), (.ref b8_0), (.ref a1)]))
  obtain ⟨_, _, ⟨T9, L9, k9, n9⟩, -, X9, ⟨Lc9, hQ9, l9, y9, z9⟩, st9⟩ := Jvm.LawKit.callS X8 hx (y := (⟨"java/lang/StringUTF16", "coderFromArrayLen", "([BI)B"⟩ : MethodName)) hown (mvT hZ (hw _ (List.mem_of_getElem? (i := 27) rfl))) (mvT hZ (hw _ (List.mem_of_getElem? (i := 28) rfl))) (mvT hZ (hw _ (List.mem_of_getElem? (i := 21) rfl))) (mvT hZ (hw _ (List.mem_of_getElem? (i := 29) rfl))) (by decide) (backOf (W := 1) (rm7_2 l Z a0 hw [] b8_0 (upA (upA (fun _ => (0 : Int32)) 0 (nar .byte ((g_a2f 0).toInt8.toInt32))) 1 (nar .byte ((g_a2f 1).toInt8.toInt32))) T8.heap n0 Z8 Q8_0) hZ (hw _ (List.mem_of_getElem? (i := 29) rfl)) (hw _ (List.mem_of_getElem? (i := 21) rfl)) (by decide) (by decide)) (g := (mkF m 45 #[.val (.ref a1), .val (.ref a2), .val (.int (0 : Int32)), .val (.int (2 : Int32)), .val .null, .val (.ref b8_0)] [(.int (2 : Int32)), (.ref b8_0), (.ref a1)])) rfl (by rw [hml]; rfl) (argsL := [(.ref b8_0), (.int (2 : Int32))]) (rest := [(.ref a1)]) (lenOf pd_2 rfl) rfl (by show 2 * 0 + _ ≤ _; exact Nat.le_of_eq rfl) (hb hby d3_45) (fun _ _ => ⟨rfl, rfl, (by decide : 1 + 0 ≤ _), (by decide : 2 + 0 ≤ _)⟩)
  dsimp only [Pt.U, Pt.locs, Pt.cells, Pt.slots] at X9 l9 y9 z9 st9 hQ9
  replace y9 : k9 = 1 := y9
  replace z9 : n9 = 2 := z9
  subst y9 z9
  obtain ⟨rfl, N9q, e9⟩ := hQ9
  have N9 : Fr n0 L9 := Eq.mpr (congrArg (Fr n0) l9) (Fr.app N8 N9q)
  refine Go.step st9 ?_
  show Go p e below _ (T9.setTop (mkF m 48 #[.val (.ref a1), .val (.ref a2), .val (.int (0 : Int32)), .val (.int (2 : Int32)), .val .null, .val (.ref b8_0)] [(.int (0 : Int32)), (.ref a1)]))
  obtain ⟨T10, h10, X10, e10, W10, st10⟩ := putFN X9 hx hZ hown (hw _ (List.mem_of_getElem? (i := 30) rfl)) Via.refl e9 F_coder_a1_8 E_a1_8 (Or.inr ⟨(hw _ (List.mem_of_getElem? (i := 31) rfl)), rfl, hnm⟩) (hw _ (List.mem_of_getElem? (i := 6) rfl)) (ty := .byte) (v' := .int (0 : Int32)) (by decide) rfl (by decide) (g := (mkF m 48 #[.val (.ref a1), .val (.ref a2), .val (.int (0 : Int32)), .val (.int (2 : Int32)), .val .null, .val (.ref b8_0)] [(.int (0 : Int32)), (.ref a1)])) rfl rfl (hb hby d3_48)
  refine Go.step st10 ?_
  have N10 := Fr.snoc X10 N9 g_a1
  have A_a2_10 := A_a2_8.other W10 hne_a2_a1
  have E_a1_10 := E_a1_8.wr W10
  have F_value_a1_10 := F_value_a1_8.other W10 (Or.inr (slot_ne (Or.inr (hw _ (List.mem_of_getElem? (i := 33) rfl))) (Or.inr (hw _ (List.mem_of_getElem? (i := 31) rfl))) (by decide) (t := (.array .byte)) (t' := .byte) (by decide) (by decide)))
  have A_b8_0_10 := Q8_0.other W10 (Ne.symm ne_a1_b8_0)
  have O10 := O8.wr W10 g_a1
  have Z10 := Nat.le_trans Z8 (Keep.of_wr W10).1
  have KK10 : Keep h0 h10 [a1] := KK8.wr W10 (Or.inl (by simp))
  clear A_a2_8 E_a1_8 F_value_a1_8 Q8_0 O8 Z8 KK8
  have F_coder_a1_10 := F_coder_a1_8.same W10
  show Go p e below _ (T10.setTop (mkF m 51 #[.val (.ref a1), .val (.ref a2), .val (.int (0 : Int32)), .val (.int (2 : Int32)), .val .null, .val (.ref b8_0)] []))
  refine Go.step (fun t k => XS.aloadN X10.here hx rfl (hb hby d3_51) rfl rfl k) ?_
  show Go p e below _ (T10.setTop (mkF m 52 #[.val (.ref a1), .val (.ref a2), .val (.int (0 : Int32)), .val (.int (2 : Int32)), .val .null, .val (.ref b8_0)] [(.ref a1)]))
  refine Go.step (fun t k => XS.aload X10.here hx rfl (hb hby d3_52) rfl rfl k) ?_
  show Go p e below _ (T10.setTop (mkF m 54 #[.val (.ref a1), .val (.ref a2), .val (.int (0 : Int32)), .val (.int (2 : Int32)), .val .null, .val (.ref b8_0)] [(.ref b8_0), (.ref a1)]))
  obtain ⟨T11, h11, X11, e11, W11, st11⟩ := putF X10 hx hZ hown (host := "") (Or.inl (hw _ (List.mem_of_getElem? (i := 32) rfl))) Via.refl e10 F_value_a1_10 E_a1_10 (Or.inr ⟨(hw _ (List.mem_of_getElem? (i := 33) rfl)), rfl, hnm⟩) (hw _ (List.mem_of_getElem? (i := 6) rfl)) (ty := (.array .byte)) (by decide) rfl rfl (g := (mkF m 54 #[.val (.ref a1), .val (.ref a2), .val (.int (0 : Int32)), .val (.int (2 : Int32)), .val .null, .val (.ref b8_0)] [(.ref b8_0), (.ref a1)])) rfl rfl (hb hby d3_54)
  refine Go.step st11 ?_
  have N11 := Fr.snoc X11 N10 g_a1
  have A_a2_11 := A_a2_10.other W11 hne_a2_a1
  have E_a1_11 := E_a1_10.wr W11
  have F_coder_a1_11 := F_coder_a1_10.other W11 (Or.inr (slot_ne (Or.inr (hw _ (List.mem_of_getElem? (i := 31) rfl))) (Or.inr (hw _ (List.mem_of_getElem? (i := 33) rfl))) (by decide) (t := .byte) (t' := (.array .byte)) (by decide) (by decide)))
  have A_b8_0_11 := A_b8_0_10.other W11 (Ne.symm ne_a1_b8_0)
  have O11 := O10.wr W11 g_a1
  have Z11 := Nat.le_trans Z10 (Keep.of_wr W11).1
  have KK11 : Keep h0 h11 [a1] := KK10.wr W11 (Or.inl (by simp))
  clear A_a2_10 E_a1_10 F_coder_a1_10 A_b8_0_10 O10 Z10 KK10
  have F_value_a1_11 := F_value_a1_10.same W11
  show Go p e below _ (T11.setTop (mkF m 57 #[.val (.ref a1), .val (.ref a2), .val (.int (0 : Int32)), .val (.int (2 : Int32)), .val .null, .val (.ref b8_0)] []))
  refine retGV X11 hx Bd.notSynchronized Bd.returns (hb hby d3_57) ?_ (by decide) (by decide)
  show Q3_2 Z a1 a2 g_a2f u_coder_a1 u_value_a1 wC h0 n0 _ T11.heap _
  rw [e11]
  exact ⟨rfl, N11, KK11, E_a1_11, F_coder_a1_11⟩
theorem ef_2_2 (m : MethodId) (a1 : Addr) (a2 : Addr) : entryFrame m #[(.ref a1), (.ref a2)] 2 = mkF m 0 #[.val (.ref a1), .val (.ref a2)] [] := by first | (simp [entryFrame, mkF, argsToLocals, Value.category]; done) | rfl
def Q2_2 (Z : State) (a1 : Addr) (a2 : Addr) (g_a2f : Nat → Int32) (u_coder_a1 : Value) (u_value_a1 : Value) (wC : Int32) (h0 : Heap) (n0 : Nat) (v : Option Value) (h : Heap) (L : List Loc) : Prop := v = none ∧ Fr n0 L ∧ Keep h0 h [a1] ∧ Exa Z h a1 "java/lang/String" ∧ Fld Z h a1 "java/lang/String" "coder" "B" (.int (0 : Int32))
set_option maxRecDepth 65536 in
set_option maxHeartbeats 40000000 in
theorem rm2_2 (l : Launch) (Z : State) (a0 : Array Value) (hw : ∀ d ∈ tables_1, d.before a0 Z = true) (ws : List Jvm.Cond) (a1 : Addr) (a2 : Addr) (g_a2f : Nat → Int32) (u_coder_a1 : Value) (u_value_a1 : Value) (wC : Int32) (h0 : Heap) (n0 : Nat) (Z0 : n0 ≤ h0.size) (A_a2 : Ary Z h0 a2 .char 2 (fun i => .int (g_a2f i))) (E_a1 : Exa Z h0 a1 "java/lang/String") (F_coder_a1 : Fld Z h0 a1 "java/lang/String" "coder" "B" u_coder_a1) (F_value_a1 : Fld Z h0 a1 "java/lang/String" "value" "[B" u_value_a1) (hC : ¬ (wC = (0 : Int32))) (S_COMPACT_STRINGS : Sta Z Z.heap "java/lang/String" "COMPACT_STRINGS" "Z" (.int wC)) (hO : Old Z n0 h0) (g_a1 : n0 ≤ a1) (hp6_hp36_hp9_hp20 : ¬ ((255 : Int32) < (g_a2f 0))) (hp6_hp36_hp9_hp20_x2 : ¬ ((255 : Int32) < (g_a2f 1))) (hne_a2_a1 : a2 ≠ a1) :
    MetFree l (⟨"java/lang/String", "<init>", "([C)V"⟩ : MethodName) (head1 (Jvm.Cond.code (⟨"java/lang/String", "<init>", "([C)V"⟩ : MethodName) jdk_42_method_3_code 2 none :: ws) ({ frames := 3, cells := 1, slots := 2, locals := 52 } : Room)) (fun a U => a = #[(.ref a1), (.ref a2)] ∧ Z.Warmed39 U.vm ∧ U.heap = h0) (fun _ _ _ _ _ => True) (fun _ U o U' => ∃ v L, o = .returned v ∧ Q2_2 Z a1 a2 g_a2f u_coder_a1 u_value_a1 wC h0 n0 v U'.heap L ∧ FrameEnd U o U' L ({ frames := 3, cells := 1, slots := 2, locals := 52 } : Room).cells ({ frames := 3, cells := 1, slots := 2, locals := 52 } : Room).slots) := by
  refine MetFree.of_bodySF (plainFor_of_name pn_1) hisR ?_
  intro p e s m args below meth c s₁ Bd hml0 hP hK
  obtain ⟨rfl, hZ, hh⟩ := hP
  have hx := Bd.exec
  have hby := Bd.bytes
  have hml : c.maxLocals = 2 := hml0
  have hown : s.vm.findClass "java/lang/String" = some m.cls := findClass_of_methodNamed Bd.named
  have hnm := (name_of_methodNamed Bd.named Bd.method).1
  have X0 : Stand p l e ({ frames := 3, cells := 1, slots := 2, locals := 52 } : Room) s m #[(.ref a1), (.ref a2)] below meth c s₁ [] 0 0 := Stand.of_body Bd
  have e0 : s₁.heap = h0 := by rw [← hh, Bd.state]; rfl
  have N0 := Fr.nil n0
  refine Go.done (Go.step (fun t k => castTop (ef_2_2 m a1 a2) k) ?_)
  have KK0 : Keep h0 h0 [a1] := Keep.refl _ _
  show Go p e below _ (s₁.setTop (mkF m 0 #[.val (.ref a1), .val (.ref a2)] []))
  refine Go.step (fun t k => XS.aloadN X0.here hx rfl (hb hby d2_0) rfl rfl k) ?_
  show Go p e below _ (s₁.setTop (mkF m 1 #[.val (.ref a1), .val (.ref a2)] [(.ref a1)]))
  refine Go.step (fun t k => XS.aloadN X0.here hx rfl (hb hby d2_1) rfl rfl k) ?_
  show Go p e below _ (s₁.setTop (mkF m 2 #[.val (.ref a1), .val (.ref a2)] [(.ref a2), (.ref a1)]))
  refine Go.step (fun t k => XS.iconst X0.here hx rfl (hb hby d2_2)  k) ?_
  show Go p e below _ (s₁.setTop (mkF m 3 #[.val (.ref a1), .val (.ref a2)] [(.int (0 : Int32)), (.ref a2), (.ref a1)]))
  refine Go.step (fun t k => XS.aloadN X0.here hx rfl (hb hby d2_3) rfl rfl k) ?_
  show Go p e below _ (s₁.setTop (mkF m 4 #[.val (.ref a1), .val (.ref a2)] [(.ref a2), (.int (0 : Int32)), (.ref a2), (.ref a1)]))
  refine Go.step (lenA X0 hx hZ e0 A_a2 (g := (mkF m 4 #[.val (.ref a1), .val (.ref a2)] [(.ref a2), (.int (0 : Int32)), (.ref a2), (.ref a1)])) rfl rfl (hb hby d2_4)) ?_
  show Go p e below _ (s₁.setTop (mkF m 5 #[.val (.ref a1), .val (.ref a2)] [(.int (2 : Int32)), (.int (0 : Int32)), (.ref a2), (.ref a1)]))
  refine Go.step (fun t k => XS.aconstNull X0.here hx rfl (hb hby d2_5)  k) ?_
  show Go p e below _ (s₁.setTop (mkF m 6 #[.val (.ref a1), .val (.ref a2)] [.null, (.int (2 : Int32)), (.int (0 : Int32)), (.ref a2), (.ref a1)]))
  obtain ⟨_, _, ⟨T3, L3, k3, n3⟩, -, X3, ⟨Lc3, hQ3, l3, y3, z3⟩, st3⟩ := X0.specialBack hx (y := (⟨"java/lang/String", "<init>", "([CIILjava/lang/Void;)V"⟩ : MethodName)) rfl hown (mvT hZ (hw _ (List.mem_of_getElem? (i := 11) rfl))) (mvT hZ (hw _ (List.mem_of_getElem? (i := 12) rfl))) (mvT hZ (hw _ (List.mem_of_getElem? (i := 14) rfl))) (by decide) (backOf (W := 0) (rm3_2 l Z a0 hw [] a1 a2 g_a2f u_coder_a1 u_value_a1 wC h0 n0 Z0 A_a2 E_a1 F_coder_a1 F_value_a1 hC S_COMPACT_STRINGS hO hp6_hp36_hp9_hp20 hp6_hp36_hp9_hp20_x2 g_a1 hne_a2_a1) hZ (hw _ (List.mem_of_getElem? (i := 14) rfl)) (hw _ (List.mem_of_getElem? (i := 7) rfl)) (by decide) (by decide)) (g := (mkF m 6 #[.val (.ref a1), .val (.ref a2)] [.null, (.int (2 : Int32)), (.int (0 : Int32)), (.ref a2), (.ref a1)])) rfl (by rw [hml]; rfl) (Steps.refl _) (a := a1) (argsL := [(.ref a2), (.int (0 : Int32)), (.int (2 : Int32)), .null]) (rest := []) (lenOf pd_3 rfl) rfl (by show 2 * 0 + _ ≤ _; exact Nat.le_of_eq rfl) (hb hby d2_6) (fun _ _ => ⟨rfl, e0, (by decide : 0 + 1 ≤ _), (by decide : 0 + 2 ≤ _)⟩)
  dsimp only [Pt.U, Pt.locs, Pt.cells, Pt.slots] at X3 l3 y3 z3 st3 hQ3
  replace y3 : k3 = 1 := y3
  replace z3 : n3 = 2 := z3
  subst y3 z3
  obtain ⟨rfl, N3q, K3, Q3_0, Q3_1⟩ := hQ3
  have N3 : Fr n0 L3 := Eq.mpr (congrArg (Fr n0) l3) (Fr.app N0 N3q)
  have A_a2_3 := A_a2.keep K3 (ninS hne_a2_a1 nin0)
  have E_a1_3 := E_a1.keep K3
  have O3 := hO.keep K3 (allS g_a1 all0)
  have Z3 := Nat.le_trans Z0 K3.1
  have KK3 : Keep h0 T3.heap [a1] := KK0.trans K3 (allS (Or.inl (by simp)) all0)
  clear A_a2 E_a1 hO Z0 KK0 K3
  refine Go.trans st3 ?_
  show Go p e below _ (T3.setTop (mkF m 9 #[.val (.ref a1), .val (.ref a2)] []))
  refine retGV X3 hx Bd.notSynchronized Bd.returns (hb hby d2_9) ?_ (by decide) (by decide)
  show Q2_2 Z a1 a2 g_a2f u_coder_a1 u_value_a1 wC h0 n0 _ T3.heap _
  exact ⟨rfl, N3, KK3, Q3_0, Q3_1⟩
theorem ef_6_3 (m : MethodId) (a1 : Addr) (a3 : Addr) : entryFrame m #[(.ref a1), (.int (0 : Int32)), (.ref a3), (.int (0 : Int32)), (.int (3 : Int32))] 7 = mkF m 0 #[.val (.ref a1), .val (.int (0 : Int32)), .val (.ref a3), .val (.int (0 : Int32)), .val (.int (3 : Int32)), .unset, .unset] [] := by first | (simp [entryFrame, mkF, argsToLocals, Value.category]; done) | rfl
def Q6_3 (Z : State) (a1 : Addr) (a3 : Addr) (g_a1f : Nat → Int32) (g_a3f : Nat → Int32) (h0 : Heap) (n0 : Nat) (v : Option Value) (h : Heap) (L : List Loc) : Prop := v = some (.int (3 : Int32)) ∧ Fr n0 L ∧ Keep h0 h [a3] ∧ Ary Z h a3 .byte 3 (fun i => .int ((upA (upA (upA g_a3f 0 (nar .byte ((g_a1f 0).toInt8.toInt32))) 1 (nar .byte ((g_a1f 1).toInt8.toInt32))) 2 (nar .byte ((g_a1f 2).toInt8.toInt32))) i))
set_option maxRecDepth 65536 in
set_option maxHeartbeats 40000000 in
theorem rm6_3 (l : Launch) (Z : State) (a0 : Array Value) (hw : ∀ d ∈ tables_1, d.before a0 Z = true) (ws : List Jvm.Cond) (a1 : Addr) (a3 : Addr) (g_a1f : Nat → Int32) (g_a3f : Nat → Int32) (h0 : Heap) (n0 : Nat) (Z0 : n0 ≤ h0.size) (A_a1 : Ary Z h0 a1 .char 3 (fun i => .int (g_a1f i))) (A_a3 : Ary Z h0 a3 .byte 3 (fun i => .int (g_a3f i))) (hp20 : ¬ ((255 : Int32) < (g_a1f 0))) (g_a3 : n0 ≤ a3) (hne_a1_a3 : a1 ≠ a3) (hp20_x2 : ¬ ((255 : Int32) < (g_a1f 1))) (hp20_x3 : ¬ ((255 : Int32) < (g_a1f 2))) :
    MetFree l (⟨"java/lang/StringUTF16", "compress", "([CI[BII)I"⟩ : MethodName) (head1 (Jvm.Cond.code (⟨"java/lang/StringUTF16", "compress", "([CI[BII)I"⟩ : MethodName) jdk_52_method_21_code 7 (some .int) :: ws) ({ frames := 0, cells := 0, slots := 0, locals := 0 } : Room)) (fun a U => a = #[(.ref a1), (.int (0 : Int32)), (.ref a3), (.int (0 : Int32)), (.int (3 : Int32))] ∧ Z.Warmed39 U.vm ∧ U.heap = h0) (fun _ _ _ _ _ => True) (fun _ U o U' => ∃ v L, o = .returned v ∧ Q6_3 Z a1 a3 g_a1f g_a3f h0 n0 v U'.heap L ∧ FrameEnd U o U' L ({ frames := 0, cells := 0, slots := 0, locals := 0 } : Room).cells ({ frames := 0, cells := 0, slots := 0, locals := 0 } : Room).slots) := by
  refine MetFree.of_bodySF (plainFor_of_name pn_0) hisR ?_
  intro p e s m args below meth c s₁ Bd hml0 hP hK
  obtain ⟨rfl, hZ, hh⟩ := hP
  have hx := Bd.exec
  have hby := Bd.bytes
  have hml : c.maxLocals = 7 := hml0
  have hown : s.vm.findClass "java/lang/StringUTF16" = some m.cls := findClass_of_methodNamed Bd.named
  have hnm := (name_of_methodNamed Bd.named Bd.method).1
  have X0 : Stand p l e ({ frames := 0, cells := 0, slots := 0, locals := 0 } : Room) s m #[(.ref a1), (.int (0 : Int32)), (.ref a3), (.int (0 : Int32)), (.int (3 : Int32))] below meth c s₁ [] 0 0 := Stand.of_body Bd
  have e0 : s₁.heap = h0 := by rw [← hh, Bd.state]; rfl
  have N0 := Fr.nil n0
  refine Go.done (Go.step (fun t k => castTop (ef_6_3 m a1 a3) k) ?_)
  have KK0 : Keep h0 h0 [a3] := Keep.refl _ _
  show Go p e below _ (s₁.setTop (mkF m 0 #[.val (.ref a1), .val (.int (0 : Int32)), .val (.ref a3), .val (.int (0 : Int32)), .val (.int (3 : Int32)), .unset, .unset] []))
  refine Go.step (fun t k => XS.iconst X0.here hx rfl (hb hby d6_0)  k) ?_
  show Go p e below _ (s₁.setTop (mkF m 1 #[.val (.ref a1), .val (.int (0 : Int32)), .val (.ref a3), .val (.int (0 : Int32)), .val (.int (3 : Int32)), .unset, .unset] [(.int (0 : Int32))]))
  refine Go.step (fun t k => XS.istore X0.here hx rfl (hb hby d6_1) rfl (l' := #[.val (.ref a1), .val (.int (0 : Int32)), .val (.ref a3), .val (.int (0 : Int32)), .val (.int (3 : Int32)), .val (.int (0 : Int32)), .unset]) rfl k) ?_
  show Go p e below _ (s₁.setTop (mkF m 3 #[.val (.ref a1), .val (.int (0 : Int32)), .val (.ref a3), .val (.int (0 : Int32)), .val (.int (3 : Int32)), .val (.int (0 : Int32)), .unset] []))
  refine Go.step (fun t k => XS.iload X0.here hx rfl (hb hby d6_3) rfl k) ?_
  show Go p e below _ (s₁.setTop (mkF m 5 #[.val (.ref a1), .val (.int (0 : Int32)), .val (.ref a3), .val (.int (0 : Int32)), .val (.int (3 : Int32)), .val (.int (0 : Int32)), .unset] [(.int (0 : Int32))]))
  refine Go.step (fun t k => XS.iload X0.here hx rfl (hb hby d6_5) rfl k) ?_
  show Go p e below _ (s₁.setTop (mkF m 7 #[.val (.ref a1), .val (.int (0 : Int32)), .val (.ref a3), .val (.int (0 : Int32)), .val (.int (3 : Int32)), .val (.int (0 : Int32)), .unset] [(.int (3 : Int32)), (.int (0 : Int32))]))
  refine Go.step (fun t k => XS.icmpNo X0.here hx rfl (hb hby d6_7) rfl (tlt (by decide : (0 : Int32) < (3 : Int32))).2.1 k) ?_
  show Go p e below _ (s₁.setTop (mkF m 10 #[.val (.ref a1), .val (.int (0 : Int32)), .val (.ref a3), .val (.int (0 : Int32)), .val (.int (3 : Int32)), .val (.int (0 : Int32)), .unset] []))
  refine Go.step (fun t k => XS.aloadN X0.here hx rfl (hb hby d6_10) rfl rfl k) ?_
  show Go p e below _ (s₁.setTop (mkF m 11 #[.val (.ref a1), .val (.int (0 : Int32)), .val (.ref a3), .val (.int (0 : Int32)), .val (.int (3 : Int32)), .val (.int (0 : Int32)), .unset] [(.ref a1)]))
  refine Go.step (fun t k => XS.iloadN X0.here hx rfl (hb hby d6_11) rfl k) ?_
  show Go p e below _ (s₁.setTop (mkF m 12 #[.val (.ref a1), .val (.int (0 : Int32)), .val (.ref a3), .val (.int (0 : Int32)), .val (.int (3 : Int32)), .val (.int (0 : Int32)), .unset] [(.int (0 : Int32)), (.ref a1)]))
  refine Go.step (ldC X0 hx hZ e0 A_a1 (j := (0 : Int32)) (by decide) (by decide) (g := (mkF m 12 #[.val (.ref a1), .val (.int (0 : Int32)), .val (.ref a3), .val (.int (0 : Int32)), .val (.int (3 : Int32)), .val (.int (0 : Int32)), .unset] [(.int (0 : Int32)), (.ref a1)])) rfl rfl (hb hby d6_12)) ?_
  show Go p e below _ (s₁.setTop (mkF m 13 #[.val (.ref a1), .val (.int (0 : Int32)), .val (.ref a3), .val (.int (0 : Int32)), .val (.int (3 : Int32)), .val (.int (0 : Int32)), .unset] [(.int (g_a1f 0))]))
  refine Go.step (fun t k => XS.istore X0.here hx rfl (hb hby d6_13) rfl (l' := #[.val (.ref a1), .val (.int (0 : Int32)), .val (.ref a3), .val (.int (0 : Int32)), .val (.int (3 : Int32)), .val (.int (0 : Int32)), .val (.int (g_a1f 0))]) rfl k) ?_
  show Go p e below _ (s₁.setTop (mkF m 15 #[.val (.ref a1), .val (.int (0 : Int32)), .val (.ref a3), .val (.int (0 : Int32)), .val (.int (3 : Int32)), .val (.int (0 : Int32)), .val (.int (g_a1f 0))] []))
  refine Go.step (fun t k => XS.iload X0.here hx rfl (hb hby d6_15) rfl k) ?_
  show Go p e below _ (s₁.setTop (mkF m 17 #[.val (.ref a1), .val (.int (0 : Int32)), .val (.ref a3), .val (.int (0 : Int32)), .val (.int (3 : Int32)), .val (.int (0 : Int32)), .val (.int (g_a1f 0))] [(.int (g_a1f 0))]))
  refine Go.step (fun t k => XS.sipush X0.here hx rfl (hb hby d6_17)  k) ?_
  show Go p e below _ (s₁.setTop (mkF m 20 #[.val (.ref a1), .val (.int (0 : Int32)), .val (.ref a3), .val (.int (0 : Int32)), .val (.int (3 : Int32)), .val (.int (0 : Int32)), .val (.int (g_a1f 0))] [(.int (255 : Int32)), (.int (g_a1f 0))]))
  refine Go.step (fun t k => XS.icmpYes X0.here hx rfl (pc0 := 20) (pc' := 26) rfl (hb hby d6_20) rfl (flt hp20).2.2.2 (by decide) (by decide) k) ?_
  show Go p e below _ (s₁.setTop (mkF m 26 #[.val (.ref a1), .val (.int (0 : Int32)), .val (.ref a3), .val (.int (0 : Int32)), .val (.int (3 : Int32)), .val (.int (0 : Int32)), .val (.int (g_a1f 0))] []))
  refine Go.step (fun t k => XS.aloadN X0.here hx rfl (hb hby d6_26) rfl rfl k) ?_
  show Go p e below _ (s₁.setTop (mkF m 27 #[.val (.ref a1), .val (.int (0 : Int32)), .val (.ref a3), .val (.int (0 : Int32)), .val (.int (3 : Int32)), .val (.int (0 : Int32)), .val (.int (g_a1f 0))] [(.ref a3)]))
  refine Go.step (fun t k => XS.iloadN X0.here hx rfl (hb hby d6_27) rfl k) ?_
  show Go p e below _ (s₁.setTop (mkF m 28 #[.val (.ref a1), .val (.int (0 : Int32)), .val (.ref a3), .val (.int (0 : Int32)), .val (.int (3 : Int32)), .val (.int (0 : Int32)), .val (.int (g_a1f 0))] [(.int (0 : Int32)), (.ref a3)]))
  refine Go.step (fun t k => XS.iload X0.here hx rfl (hb hby d6_28) rfl k) ?_
  show Go p e below _ (s₁.setTop (mkF m 30 #[.val (.ref a1), .val (.int (0 : Int32)), .val (.ref a3), .val (.int (0 : Int32)), .val (.int (3 : Int32)), .val (.int (0 : Int32)), .val (.int (g_a1f 0))] [(.int (g_a1f 0)), (.int (0 : Int32)), (.ref a3)]))
  refine Go.step (fun t k => XS.i2b X0.here hx rfl (hb hby d6_30) rfl k) ?_
  show Go p e below _ (s₁.setTop (mkF m 31 #[.val (.ref a1), .val (.int (0 : Int32)), .val (.ref a3), .val (.int (0 : Int32)), .val (.int (3 : Int32)), .val (.int (0 : Int32)), .val (.int (g_a1f 0))] [(.int ((g_a1f 0).toInt8.toInt32)), (.int (0 : Int32)), (.ref a3)]))
  obtain ⟨cl6, Ar6, in6, -⟩ := A_a3.hin (j := (0 : Int32)) (by decide) (by decide)
  obtain ⟨T6, h6, X6, e6, W6, st6⟩ := stB X0 hx hZ e0 Ar6 in6 (g := (mkF m 31 #[.val (.ref a1), .val (.int (0 : Int32)), .val (.ref a3), .val (.int (0 : Int32)), .val (.int (3 : Int32)), .val (.int (0 : Int32)), .val (.int (g_a1f 0))] [(.int ((g_a1f 0).toInt8.toInt32)), (.int (0 : Int32)), (.ref a3)])) rfl rfl (hb hby d6_31)
  refine Go.step st6 ?_
  have N6 := Fr.snoc X6 N0 g_a3
  have A_a1_6 := A_a1.other W6 hne_a1_a3
  have Z6 := Nat.le_trans Z0 (Keep.of_wr W6).1
  have KK6 : Keep h0 h6 [a3] := KK0.wr W6 (Or.inl (by simp))
  clear A_a1 Z0 KK0
  have A_a3_6 : Ary Z h6 a3 .byte 3 (fun i => .int ((upA g_a3f 0 (nar .byte ((g_a1f 0).toInt8.toInt32))) i)) := A_a3.setI W6 (by decide)
  show Go p e below _ (T6.setTop (mkF m 32 #[.val (.ref a1), .val (.int (0 : Int32)), .val (.ref a3), .val (.int (0 : Int32)), .val (.int (3 : Int32)), .val (.int (0 : Int32)), .val (.int (g_a1f 0))] []))
  refine Go.step (fun t k => XS.iinc X6.here hx rfl (hb hby d6_32) rfl (l' := #[.val (.ref a1), .val (.int (1 : Int32)), .val (.ref a3), .val (.int (0 : Int32)), .val (.int (3 : Int32)), .val (.int (0 : Int32)), .val (.int (g_a1f 0))]) rfl k) ?_
  show Go p e below _ (T6.setTop (mkF m 35 #[.val (.ref a1), .val (.int (1 : Int32)), .val (.ref a3), .val (.int (0 : Int32)), .val (.int (3 : Int32)), .val (.int (0 : Int32)), .val (.int (g_a1f 0))] []))
  refine Go.step (fun t k => XS.iinc X6.here hx rfl (hb hby d6_35) rfl (l' := #[.val (.ref a1), .val (.int (1 : Int32)), .val (.ref a3), .val (.int (1 : Int32)), .val (.int (3 : Int32)), .val (.int (0 : Int32)), .val (.int (g_a1f 0))]) rfl k) ?_
  show Go p e below _ (T6.setTop (mkF m 38 #[.val (.ref a1), .val (.int (1 : Int32)), .val (.ref a3), .val (.int (1 : Int32)), .val (.int (3 : Int32)), .val (.int (0 : Int32)), .val (.int (g_a1f 0))] []))
  refine Go.step (fun t k => XS.iinc X6.here hx rfl (hb hby d6_38) rfl (l' := #[.val (.ref a1), .val (.int (1 : Int32)), .val (.ref a3), .val (.int (1 : Int32)), .val (.int (3 : Int32)), .val (.int (1 : Int32)), .val (.int (g_a1f 0))]) rfl k) ?_
  show Go p e below _ (T6.setTop (mkF m 41 #[.val (.ref a1), .val (.int (1 : Int32)), .val (.ref a3), .val (.int (1 : Int32)), .val (.int (3 : Int32)), .val (.int (1 : Int32)), .val (.int (g_a1f 0))] []))
  refine Go.step (fun t k => XS.goto X6.here hx rfl (pc0 := 41) (pc' := 3) rfl (hb hby d6_41) (by decide) (by decide) k) ?_
  show Go p e below _ (T6.setTop (mkF m 3 #[.val (.ref a1), .val (.int (1 : Int32)), .val (.ref a3), .val (.int (1 : Int32)), .val (.int (3 : Int32)), .val (.int (1 : Int32)), .val (.int (g_a1f 0))] []))
  refine Go.step (fun t k => XS.iload X6.here hx rfl (hb hby d6_3) rfl k) ?_
  show Go p e below _ (T6.setTop (mkF m 5 #[.val (.ref a1), .val (.int (1 : Int32)), .val (.ref a3), .val (.int (1 : Int32)), .val (.int (3 : Int32)), .val (.int (1 : Int32)), .val (.int (g_a1f 0))] [(.int (1 : Int32))]))
  refine Go.step (fun t k => XS.iload X6.here hx rfl (hb hby d6_5) rfl k) ?_
  show Go p e below _ (T6.setTop (mkF m 7 #[.val (.ref a1), .val (.int (1 : Int32)), .val (.ref a3), .val (.int (1 : Int32)), .val (.int (3 : Int32)), .val (.int (1 : Int32)), .val (.int (g_a1f 0))] [(.int (3 : Int32)), (.int (1 : Int32))]))
  refine Go.step (fun t k => XS.icmpNo X6.here hx rfl (hb hby d6_7) rfl (tlt (by decide : (1 : Int32) < (3 : Int32))).2.1 k) ?_
  show Go p e below _ (T6.setTop (mkF m 10 #[.val (.ref a1), .val (.int (1 : Int32)), .val (.ref a3), .val (.int (1 : Int32)), .val (.int (3 : Int32)), .val (.int (1 : Int32)), .val (.int (g_a1f 0))] []))
  refine Go.step (fun t k => XS.aloadN X6.here hx rfl (hb hby d6_10) rfl rfl k) ?_
  show Go p e below _ (T6.setTop (mkF m 11 #[.val (.ref a1), .val (.int (1 : Int32)), .val (.ref a3), .val (.int (1 : Int32)), .val (.int (3 : Int32)), .val (.int (1 : Int32)), .val (.int (g_a1f 0))] [(.ref a1)]))
  refine Go.step (fun t k => XS.iloadN X6.here hx rfl (hb hby d6_11) rfl k) ?_
  show Go p e below _ (T6.setTop (mkF m 12 #[.val (.ref a1), .val (.int (1 : Int32)), .val (.ref a3), .val (.int (1 : Int32)), .val (.int (3 : Int32)), .val (.int (1 : Int32)), .val (.int (g_a1f 0))] [(.int (1 : Int32)), (.ref a1)]))
  refine Go.step (ldC X6 hx hZ e6 A_a1_6 (j := (1 : Int32)) (by decide) (by decide) (g := (mkF m 12 #[.val (.ref a1), .val (.int (1 : Int32)), .val (.ref a3), .val (.int (1 : Int32)), .val (.int (3 : Int32)), .val (.int (1 : Int32)), .val (.int (g_a1f 0))] [(.int (1 : Int32)), (.ref a1)])) rfl rfl (hb hby d6_12)) ?_
  show Go p e below _ (T6.setTop (mkF m 13 #[.val (.ref a1), .val (.int (1 : Int32)), .val (.ref a3), .val (.int (1 : Int32)), .val (.int (3 : Int32)), .val (.int (1 : Int32)), .val (.int (g_a1f 0))] [(.int (g_a1f 1))]))
  refine Go.step (fun t k => XS.istore X6.here hx rfl (hb hby d6_13) rfl (l' := #[.val (.ref a1), .val (.int (1 : Int32)), .val (.ref a3), .val (.int (1 : Int32)), .val (.int (3 : Int32)), .val (.int (1 : Int32)), .val (.int (g_a1f 1))]) rfl k) ?_
  show Go p e below _ (T6.setTop (mkF m 15 #[.val (.ref a1), .val (.int (1 : Int32)), .val (.ref a3), .val (.int (1 : Int32)), .val (.int (3 : Int32)), .val (.int (1 : Int32)), .val (.int (g_a1f 1))] []))
  refine Go.step (fun t k => XS.iload X6.here hx rfl (hb hby d6_15) rfl k) ?_
  show Go p e below _ (T6.setTop (mkF m 17 #[.val (.ref a1), .val (.int (1 : Int32)), .val (.ref a3), .val (.int (1 : Int32)), .val (.int (3 : Int32)), .val (.int (1 : Int32)), .val (.int (g_a1f 1))] [(.int (g_a1f 1))]))
  refine Go.step (fun t k => XS.sipush X6.here hx rfl (hb hby d6_17)  k) ?_
  show Go p e below _ (T6.setTop (mkF m 20 #[.val (.ref a1), .val (.int (1 : Int32)), .val (.ref a3), .val (.int (1 : Int32)), .val (.int (3 : Int32)), .val (.int (1 : Int32)), .val (.int (g_a1f 1))] [(.int (255 : Int32)), (.int (g_a1f 1))]))
  refine Go.step (fun t k => XS.icmpYes X6.here hx rfl (pc0 := 20) (pc' := 26) rfl (hb hby d6_20) rfl (flt hp20_x2).2.2.2 (by decide) (by decide) k) ?_
  show Go p e below _ (T6.setTop (mkF m 26 #[.val (.ref a1), .val (.int (1 : Int32)), .val (.ref a3), .val (.int (1 : Int32)), .val (.int (3 : Int32)), .val (.int (1 : Int32)), .val (.int (g_a1f 1))] []))
  refine Go.step (fun t k => XS.aloadN X6.here hx rfl (hb hby d6_26) rfl rfl k) ?_
  show Go p e below _ (T6.setTop (mkF m 27 #[.val (.ref a1), .val (.int (1 : Int32)), .val (.ref a3), .val (.int (1 : Int32)), .val (.int (3 : Int32)), .val (.int (1 : Int32)), .val (.int (g_a1f 1))] [(.ref a3)]))
  refine Go.step (fun t k => XS.iloadN X6.here hx rfl (hb hby d6_27) rfl k) ?_
  show Go p e below _ (T6.setTop (mkF m 28 #[.val (.ref a1), .val (.int (1 : Int32)), .val (.ref a3), .val (.int (1 : Int32)), .val (.int (3 : Int32)), .val (.int (1 : Int32)), .val (.int (g_a1f 1))] [(.int (1 : Int32)), (.ref a3)]))
  refine Go.step (fun t k => XS.iload X6.here hx rfl (hb hby d6_28) rfl k) ?_
  show Go p e below _ (T6.setTop (mkF m 30 #[.val (.ref a1), .val (.int (1 : Int32)), .val (.ref a3), .val (.int (1 : Int32)), .val (.int (3 : Int32)), .val (.int (1 : Int32)), .val (.int (g_a1f 1))] [(.int (g_a1f 1)), (.int (1 : Int32)), (.ref a3)]))
  refine Go.step (fun t k => XS.i2b X6.here hx rfl (hb hby d6_30) rfl k) ?_
  show Go p e below _ (T6.setTop (mkF m 31 #[.val (.ref a1), .val (.int (1 : Int32)), .val (.ref a3), .val (.int (1 : Int32)), .val (.int (3 : Int32)), .val (.int (1 : Int32)), .val (.int (g_a1f 1))] [(.int ((g_a1f 1).toInt8.toInt32)), (.int (1 : Int32)), (.ref a3)]))
  obtain ⟨cl7, Ar7, in7, -⟩ := A_a3_6.hin (j := (1 : Int32)) (by decide) (by decide)
  obtain ⟨T7, h7, X7, e7, W7, st7⟩ := stB X6 hx hZ e6 Ar7 in7 (g := (mkF m 31 #[.val (.ref a1), .val (.int (1 : Int32)), .val (.ref a3), .val (.int (1 : Int32)), .val (.int (3 : Int32)), .val (.int (1 : Int32)), .val (.int (g_a1f 1))] [(.int ((g_a1f 1).toInt8.toInt32)), (.int (1 : Int32)), (.ref a3)])) rfl rfl (hb hby d6_31)
  refine Go.step st7 ?_
  have N7 := Fr.snoc X7 N6 g_a3
  have A_a1_7 := A_a1_6.other W7 hne_a1_a3
  have Z7 := Nat.le_trans Z6 (Keep.of_wr W7).1
  have KK7 : Keep h0 h7 [a3] := KK6.wr W7 (Or.inl (by simp))
  clear A_a1_6 Z6 KK6
  have A_a3_7 : Ary Z h7 a3 .byte 3 (fun i => .int ((upA (upA g_a3f 0 (nar .byte ((g_a1f 0).toInt8.toInt32))) 1 (nar .byte ((g_a1f 1).toInt8.toInt32))) i)) := A_a3_6.setI W7 (by decide)
  show Go p e below _ (T7.setTop (mkF m 32 #[.val (.ref a1), .val (.int (1 : Int32)), .val (.ref a3), .val (.int (1 : Int32)), .val (.int (3 : Int32)), .val (.int (1 : Int32)), .val (.int (g_a1f 1))] []))
  refine Go.step (fun t k => XS.iinc X7.here hx rfl (hb hby d6_32) rfl (l' := #[.val (.ref a1), .val (.int (2 : Int32)), .val (.ref a3), .val (.int (1 : Int32)), .val (.int (3 : Int32)), .val (.int (1 : Int32)), .val (.int (g_a1f 1))]) rfl k) ?_
  show Go p e below _ (T7.setTop (mkF m 35 #[.val (.ref a1), .val (.int (2 : Int32)), .val (.ref a3), .val (.int (1 : Int32)), .val (.int (3 : Int32)), .val (.int (1 : Int32)), .val (.int (g_a1f 1))] []))
  refine Go.step (fun t k => XS.iinc X7.here hx rfl (hb hby d6_35) rfl (l' := #[.val (.ref a1), .val (.int (2 : Int32)), .val (.ref a3), .val (.int (2 : Int32)), .val (.int (3 : Int32)), .val (.int (1 : Int32)), .val (.int (g_a1f 1))]) rfl k) ?_
  show Go p e below _ (T7.setTop (mkF m 38 #[.val (.ref a1), .val (.int (2 : Int32)), .val (.ref a3), .val (.int (2 : Int32)), .val (.int (3 : Int32)), .val (.int (1 : Int32)), .val (.int (g_a1f 1))] []))
  refine Go.step (fun t k => XS.iinc X7.here hx rfl (hb hby d6_38) rfl (l' := #[.val (.ref a1), .val (.int (2 : Int32)), .val (.ref a3), .val (.int (2 : Int32)), .val (.int (3 : Int32)), .val (.int (2 : Int32)), .val (.int (g_a1f 1))]) rfl k) ?_
  show Go p e below _ (T7.setTop (mkF m 41 #[.val (.ref a1), .val (.int (2 : Int32)), .val (.ref a3), .val (.int (2 : Int32)), .val (.int (3 : Int32)), .val (.int (2 : Int32)), .val (.int (g_a1f 1))] []))
  refine Go.step (fun t k => XS.goto X7.here hx rfl (pc0 := 41) (pc' := 3) rfl (hb hby d6_41) (by decide) (by decide) k) ?_
  show Go p e below _ (T7.setTop (mkF m 3 #[.val (.ref a1), .val (.int (2 : Int32)), .val (.ref a3), .val (.int (2 : Int32)), .val (.int (3 : Int32)), .val (.int (2 : Int32)), .val (.int (g_a1f 1))] []))
  refine Go.step (fun t k => XS.iload X7.here hx rfl (hb hby d6_3) rfl k) ?_
  show Go p e below _ (T7.setTop (mkF m 5 #[.val (.ref a1), .val (.int (2 : Int32)), .val (.ref a3), .val (.int (2 : Int32)), .val (.int (3 : Int32)), .val (.int (2 : Int32)), .val (.int (g_a1f 1))] [(.int (2 : Int32))]))
  refine Go.step (fun t k => XS.iload X7.here hx rfl (hb hby d6_5) rfl k) ?_
  show Go p e below _ (T7.setTop (mkF m 7 #[.val (.ref a1), .val (.int (2 : Int32)), .val (.ref a3), .val (.int (2 : Int32)), .val (.int (3 : Int32)), .val (.int (2 : Int32)), .val (.int (g_a1f 1))] [(.int (3 : Int32)), (.int (2 : Int32))]))
  refine Go.step (fun t k => XS.icmpNo X7.here hx rfl (hb hby d6_7) rfl (tlt (by decide : (2 : Int32) < (3 : Int32))).2.1 k) ?_
  show Go p e below _ (T7.setTop (mkF m 10 #[.val (.ref a1), .val (.int (2 : Int32)), .val (.ref a3), .val (.int (2 : Int32)), .val (.int (3 : Int32)), .val (.int (2 : Int32)), .val (.int (g_a1f 1))] []))
  refine Go.step (fun t k => XS.aloadN X7.here hx rfl (hb hby d6_10) rfl rfl k) ?_
  show Go p e below _ (T7.setTop (mkF m 11 #[.val (.ref a1), .val (.int (2 : Int32)), .val (.ref a3), .val (.int (2 : Int32)), .val (.int (3 : Int32)), .val (.int (2 : Int32)), .val (.int (g_a1f 1))] [(.ref a1)]))
  refine Go.step (fun t k => XS.iloadN X7.here hx rfl (hb hby d6_11) rfl k) ?_
  show Go p e below _ (T7.setTop (mkF m 12 #[.val (.ref a1), .val (.int (2 : Int32)), .val (.ref a3), .val (.int (2 : Int32)), .val (.int (3 : Int32)), .val (.int (2 : Int32)), .val (.int (g_a1f 1))] [(.int (2 : Int32)), (.ref a1)]))
  refine Go.step (ldC X7 hx hZ e7 A_a1_7 (j := (2 : Int32)) (by decide) (by decide) (g := (mkF m 12 #[.val (.ref a1), .val (.int (2 : Int32)), .val (.ref a3), .val (.int (2 : Int32)), .val (.int (3 : Int32)), .val (.int (2 : Int32)), .val (.int (g_a1f 1))] [(.int (2 : Int32)), (.ref a1)])) rfl rfl (hb hby d6_12)) ?_
  show Go p e below _ (T7.setTop (mkF m 13 #[.val (.ref a1), .val (.int (2 : Int32)), .val (.ref a3), .val (.int (2 : Int32)), .val (.int (3 : Int32)), .val (.int (2 : Int32)), .val (.int (g_a1f 1))] [(.int (g_a1f 2))]))
  refine Go.step (fun t k => XS.istore X7.here hx rfl (hb hby d6_13) rfl (l' := #[.val (.ref a1), .val (.int (2 : Int32)), .val (.ref a3), .val (.int (2 : Int32)), .val (.int (3 : Int32)), .val (.int (2 : Int32)), .val (.int (g_a1f 2))]) rfl k) ?_
  show Go p e below _ (T7.setTop (mkF m 15 #[.val (.ref a1), .val (.int (2 : Int32)), .val (.ref a3), .val (.int (2 : Int32)), .val (.int (3 : Int32)), .val (.int (2 : Int32)), .val (.int (g_a1f 2))] []))
  refine Go.step (fun t k => XS.iload X7.here hx rfl (hb hby d6_15) rfl k) ?_
  show Go p e below _ (T7.setTop (mkF m 17 #[.val (.ref a1), .val (.int (2 : Int32)), .val (.ref a3), .val (.int (2 : Int32)), .val (.int (3 : Int32)), .val (.int (2 : Int32)), .val (.int (g_a1f 2))] [(.int (g_a1f 2))]))
  refine Go.step (fun t k => XS.sipush X7.here hx rfl (hb hby d6_17)  k) ?_
  show Go p e below _ (T7.setTop (mkF m 20 #[.val (.ref a1), .val (.int (2 : Int32)), .val (.ref a3), .val (.int (2 : Int32)), .val (.int (3 : Int32)), .val (.int (2 : Int32)), .val (.int (g_a1f 2))] [(.int (255 : Int32)), (.int (g_a1f 2))]))
  refine Go.step (fun t k => XS.icmpYes X7.here hx rfl (pc0 := 20) (pc' := 26) rfl (hb hby d6_20) rfl (flt hp20_x3).2.2.2 (by decide) (by decide) k) ?_
  show Go p e below _ (T7.setTop (mkF m 26 #[.val (.ref a1), .val (.int (2 : Int32)), .val (.ref a3), .val (.int (2 : Int32)), .val (.int (3 : Int32)), .val (.int (2 : Int32)), .val (.int (g_a1f 2))] []))
  refine Go.step (fun t k => XS.aloadN X7.here hx rfl (hb hby d6_26) rfl rfl k) ?_
  show Go p e below _ (T7.setTop (mkF m 27 #[.val (.ref a1), .val (.int (2 : Int32)), .val (.ref a3), .val (.int (2 : Int32)), .val (.int (3 : Int32)), .val (.int (2 : Int32)), .val (.int (g_a1f 2))] [(.ref a3)]))
  refine Go.step (fun t k => XS.iloadN X7.here hx rfl (hb hby d6_27) rfl k) ?_
  show Go p e below _ (T7.setTop (mkF m 28 #[.val (.ref a1), .val (.int (2 : Int32)), .val (.ref a3), .val (.int (2 : Int32)), .val (.int (3 : Int32)), .val (.int (2 : Int32)), .val (.int (g_a1f 2))] [(.int (2 : Int32)), (.ref a3)]))
  refine Go.step (fun t k => XS.iload X7.here hx rfl (hb hby d6_28) rfl k) ?_
  show Go p e below _ (T7.setTop (mkF m 30 #[.val (.ref a1), .val (.int (2 : Int32)), .val (.ref a3), .val (.int (2 : Int32)), .val (.int (3 : Int32)), .val (.int (2 : Int32)), .val (.int (g_a1f 2))] [(.int (g_a1f 2)), (.int (2 : Int32)), (.ref a3)]))
  refine Go.step (fun t k => XS.i2b X7.here hx rfl (hb hby d6_30) rfl k) ?_
  show Go p e below _ (T7.setTop (mkF m 31 #[.val (.ref a1), .val (.int (2 : Int32)), .val (.ref a3), .val (.int (2 : Int32)), .val (.int (3 : Int32)), .val (.int (2 : Int32)), .val (.int (g_a1f 2))] [(.int ((g_a1f 2).toInt8.toInt32)), (.int (2 : Int32)), (.ref a3)]))
  obtain ⟨cl8, Ar8, in8, -⟩ := A_a3_7.hin (j := (2 : Int32)) (by decide) (by decide)
  obtain ⟨T8, h8, X8, e8, W8, st8⟩ := stB X7 hx hZ e7 Ar8 in8 (g := (mkF m 31 #[.val (.ref a1), .val (.int (2 : Int32)), .val (.ref a3), .val (.int (2 : Int32)), .val (.int (3 : Int32)), .val (.int (2 : Int32)), .val (.int (g_a1f 2))] [(.int ((g_a1f 2).toInt8.toInt32)), (.int (2 : Int32)), (.ref a3)])) rfl rfl (hb hby d6_31)
  refine Go.step st8 ?_
  have N8 := Fr.snoc X8 N7 g_a3
  have A_a1_8 := A_a1_7.other W8 hne_a1_a3
  have Z8 := Nat.le_trans Z7 (Keep.of_wr W8).1
  have KK8 : Keep h0 h8 [a3] := KK7.wr W8 (Or.inl (by simp))
  clear A_a1_7 Z7 KK7
  have A_a3_8 : Ary Z h8 a3 .byte 3 (fun i => .int ((upA (upA (upA g_a3f 0 (nar .byte ((g_a1f 0).toInt8.toInt32))) 1 (nar .byte ((g_a1f 1).toInt8.toInt32))) 2 (nar .byte ((g_a1f 2).toInt8.toInt32))) i)) := A_a3_7.setI W8 (by decide)
  show Go p e below _ (T8.setTop (mkF m 32 #[.val (.ref a1), .val (.int (2 : Int32)), .val (.ref a3), .val (.int (2 : Int32)), .val (.int (3 : Int32)), .val (.int (2 : Int32)), .val (.int (g_a1f 2))] []))
  refine Go.step (fun t k => XS.iinc X8.here hx rfl (hb hby d6_32) rfl (l' := #[.val (.ref a1), .val (.int (3 : Int32)), .val (.ref a3), .val (.int (2 : Int32)), .val (.int (3 : Int32)), .val (.int (2 : Int32)), .val (.int (g_a1f 2))]) rfl k) ?_
  show Go p e below _ (T8.setTop (mkF m 35 #[.val (.ref a1), .val (.int (3 : Int32)), .val (.ref a3), .val (.int (2 : Int32)), .val (.int (3 : Int32)), .val (.int (2 : Int32)), .val (.int (g_a1f 2))] []))
  refine Go.step (fun t k => XS.iinc X8.here hx rfl (hb hby d6_35) rfl (l' := #[.val (.ref a1), .val (.int (3 : Int32)), .val (.ref a3), .val (.int (3 : Int32)), .val (.int (3 : Int32)), .val (.int (2 : Int32)), .val (.int (g_a1f 2))]) rfl k) ?_
  show Go p e below _ (T8.setTop (mkF m 38 #[.val (.ref a1), .val (.int (3 : Int32)), .val (.ref a3), .val (.int (3 : Int32)), .val (.int (3 : Int32)), .val (.int (2 : Int32)), .val (.int (g_a1f 2))] []))
  refine Go.step (fun t k => XS.iinc X8.here hx rfl (hb hby d6_38) rfl (l' := #[.val (.ref a1), .val (.int (3 : Int32)), .val (.ref a3), .val (.int (3 : Int32)), .val (.int (3 : Int32)), .val (.int (3 : Int32)), .val (.int (g_a1f 2))]) rfl k) ?_
  show Go p e below _ (T8.setTop (mkF m 41 #[.val (.ref a1), .val (.int (3 : Int32)), .val (.ref a3), .val (.int (3 : Int32)), .val (.int (3 : Int32)), .val (.int (3 : Int32)), .val (.int (g_a1f 2))] []))
  refine Go.step (fun t k => XS.goto X8.here hx rfl (pc0 := 41) (pc' := 3) rfl (hb hby d6_41) (by decide) (by decide) k) ?_
  show Go p e below _ (T8.setTop (mkF m 3 #[.val (.ref a1), .val (.int (3 : Int32)), .val (.ref a3), .val (.int (3 : Int32)), .val (.int (3 : Int32)), .val (.int (3 : Int32)), .val (.int (g_a1f 2))] []))
  refine Go.step (fun t k => XS.iload X8.here hx rfl (hb hby d6_3) rfl k) ?_
  show Go p e below _ (T8.setTop (mkF m 5 #[.val (.ref a1), .val (.int (3 : Int32)), .val (.ref a3), .val (.int (3 : Int32)), .val (.int (3 : Int32)), .val (.int (3 : Int32)), .val (.int (g_a1f 2))] [(.int (3 : Int32))]))
  refine Go.step (fun t k => XS.iload X8.here hx rfl (hb hby d6_5) rfl k) ?_
  show Go p e below _ (T8.setTop (mkF m 7 #[.val (.ref a1), .val (.int (3 : Int32)), .val (.ref a3), .val (.int (3 : Int32)), .val (.int (3 : Int32)), .val (.int (3 : Int32)), .val (.int (g_a1f 2))] [(.int (3 : Int32)), (.int (3 : Int32))]))
  refine Go.step (fun t k => XS.icmpYes X8.here hx rfl (pc0 := 7) (pc' := 44) rfl (hb hby d6_7) rfl (flt (by decide : ¬ ((3 : Int32) < (3 : Int32)))).2.1 (by decide) (by decide) k) ?_
  show Go p e below _ (T8.setTop (mkF m 44 #[.val (.ref a1), .val (.int (3 : Int32)), .val (.ref a3), .val (.int (3 : Int32)), .val (.int (3 : Int32)), .val (.int (3 : Int32)), .val (.int (g_a1f 2))] []))
  refine Go.step (fun t k => XS.iload X8.here hx rfl (hb hby d6_44) rfl k) ?_
  show Go p e below _ (T8.setTop (mkF m 46 #[.val (.ref a1), .val (.int (3 : Int32)), .val (.ref a3), .val (.int (3 : Int32)), .val (.int (3 : Int32)), .val (.int (3 : Int32)), .val (.int (g_a1f 2))] [(.int (3 : Int32))]))
  refine retGI X8 hx Bd.notSynchronized Bd.returns (hb hby d6_46) ?_ (by decide) (by decide)
  show Q6_3 Z a1 a3 g_a1f g_a3f h0 n0 _ T8.heap _
  rw [e8]
  exact ⟨rfl, N8, KK8, A_a3_8⟩
theorem ef_5_3 (m : MethodId) (a1 : Addr) : entryFrame m #[(.ref a1), (.int (0 : Int32)), (.int (3 : Int32))] 6 = mkF m 0 #[.val (.ref a1), .val (.int (0 : Int32)), .val (.int (3 : Int32)), .unset, .unset, .unset] [] := by first | (simp [entryFrame, mkF, argsToLocals, Value.category]; done) | rfl
def Q5_3 (Z : State) (a1 : Addr) (g_a1f : Nat → Int32) (h0 : Heap) (n0 : Nat) (v : Option Value) (h : Heap) (L : List Loc) : Prop := ∃ (b4 : Addr), v = some (.ref b4) ∧ Fr n0 L ∧ Keep h0 h [] ∧ h0.size ≤ b4 ∧ Ary Z h b4 .byte 3 (fun i => .int ((upA (upA (upA (fun _ => (0 : Int32)) 0 (nar .byte ((g_a1f 0).toInt8.toInt32))) 1 (nar .byte ((g_a1f 1).toInt8.toInt32))) 2 (nar .byte ((g_a1f 2).toInt8.toInt32))) i))
set_option maxRecDepth 65536 in
set_option maxHeartbeats 40000000 in
theorem rm5_3 (l : Launch) (Z : State) (a0 : Array Value) (hw : ∀ d ∈ tables_1, d.before a0 Z = true) (ws : List Jvm.Cond) (a1 : Addr) (g_a1f : Nat → Int32) (h0 : Heap) (n0 : Nat) (Z0 : n0 ≤ h0.size) (A_a1 : Ary Z h0 a1 .char 3 (fun i => .int (g_a1f i))) (hp9_hp20 : ¬ ((255 : Int32) < (g_a1f 0))) (hp9_hp20_x2 : ¬ ((255 : Int32) < (g_a1f 1))) (hp9_hp20_x3 : ¬ ((255 : Int32) < (g_a1f 2))) :
    MetFree l (⟨"java/lang/StringUTF16", "compress", "([CII)[B"⟩ : MethodName) (head1 (Jvm.Cond.code (⟨"java/lang/StringUTF16", "compress", "([CII)[B"⟩ : MethodName) jdk_52_method_16_code 6 (some (.array .byte)) :: ws) ({ frames := 1, cells := 1, slots := 3, locals := 18 } : Room)) (fun a U => a = #[(.ref a1), (.int (0 : Int32)), (.int (3 : Int32))] ∧ Z.Warmed39 U.vm ∧ U.heap = h0) (fun _ _ _ _ _ => True) (fun _ U o U' => ∃ v L, o = .returned v ∧ Q5_3 Z a1 g_a1f h0 n0 v U'.heap L ∧ FrameEnd U o U' L ({ frames := 1, cells := 1, slots := 3, locals := 18 } : Room).cells ({ frames := 1, cells := 1, slots := 3, locals := 18 } : Room).slots) := by
  refine MetFree.of_bodySF (plainFor_of_name pn_0) hisR ?_
  intro p e s m args below meth c s₁ Bd hml0 hP hK
  obtain ⟨rfl, hZ, hh⟩ := hP
  have hx := Bd.exec
  have hby := Bd.bytes
  have hml : c.maxLocals = 6 := hml0
  have hown : s.vm.findClass "java/lang/StringUTF16" = some m.cls := findClass_of_methodNamed Bd.named
  have hnm := (name_of_methodNamed Bd.named Bd.method).1
  have X0 : Stand p l e ({ frames := 1, cells := 1, slots := 3, locals := 18 } : Room) s m #[(.ref a1), (.int (0 : Int32)), (.int (3 : Int32))] below meth c s₁ [] 0 0 := Stand.of_body Bd
  have e0 : s₁.heap = h0 := by rw [← hh, Bd.state]; rfl
  have N0 := Fr.nil n0
  refine Go.done (Go.step (fun t k => castTop (ef_5_3 m a1) k) ?_)
  have KK0 : Keep h0 h0 [] := Keep.refl _ _
  show Go p e below _ (s₁.setTop (mkF m 0 #[.val (.ref a1), .val (.int (0 : Int32)), .val (.int (3 : Int32)), .unset, .unset, .unset] []))
  refine Go.step (fun t k => XS.iloadN X0.here hx rfl (hb hby d5_0) rfl k) ?_
  show Go p e below _ (s₁.setTop (mkF m 1 #[.val (.ref a1), .val (.int (0 : Int32)), .val (.int (3 : Int32)), .unset, .unset, .unset] [(.int (3 : Int32))]))
  obtain ⟨T4, h4, k4, X4, e4, E4, A4, st4⟩ := newP X0 hx hZ (hw _ (List.mem_of_getElem? (i := 23) rfl)) e0 (g := (mkF m 1 #[.val (.ref a1), .val (.int (0 : Int32)), .val (.int (3 : Int32)), .unset, .unset, .unset] [(.int (3 : Int32))])) rfl (hb hby d5_1) rfl (by decide) (cap := 3) (by decide) (by decide) (by decide) (by decide)
  obtain ⟨b4, g4⟩ : ∃ z, z = h0.size := ⟨_, rfl⟩
  rw [← g4] at A4 st4
  have g_b4 : n0 ≤ b4 := Nat.le_trans Z0 (Nat.le_of_eq g4.symm)
  have sz_b4 : h0.size ≤ b4 := Nat.le_trans KK0.1 (Nat.le_of_eq g4.symm)
  have ne_a1_b4 : a1 ≠ b4 := Nat.ne_of_lt (Nat.lt_of_lt_of_le A_a1.lt (Nat.le_of_eq g4.symm))
  refine Go.step st4 ?_
  have A_a1_4 := A_a1.ext E4
  have Z4 := Nat.le_trans Z0 E4.1
  have KK4 : Keep h0 h4 [] := KK0.ext E4
  clear A_a1 Z0 KK0 E4
  have A_b4_4 : Ary Z h4 b4 .byte 3 (fun i => .int ((fun _ => (0 : Int32)) i)) := Ary.mk A4 (by decide) (by decide)
  replace X4 : Stand p l e ({ frames := 1, cells := 1, slots := 3, locals := 18 } : Room) s m #[(.ref a1), (.int (0 : Int32)), (.int (3 : Int32))] below meth c T4 _ 1 3 := X4
  show Go p e below _ (T4.setTop (mkF m 3 #[.val (.ref a1), .val (.int (0 : Int32)), .val (.int (3 : Int32)), .unset, .unset, .unset] [(.ref b4)]))
  refine Go.step (fun t k => XS.astoreN X4.here hx rfl (hb hby d5_3) rfl rfl (l' := #[.val (.ref a1), .val (.int (0 : Int32)), .val (.int (3 : Int32)), .val (.ref b4), .unset, .unset]) rfl k) ?_
  show Go p e below _ (T4.setTop (mkF m 4 #[.val (.ref a1), .val (.int (0 : Int32)), .val (.int (3 : Int32)), .val (.ref b4), .unset, .unset] []))
  refine Go.step (fun t k => XS.aloadN X4.here hx rfl (hb hby d5_4) rfl rfl k) ?_
  show Go p e below _ (T4.setTop (mkF m 5 #[.val (.ref a1), .val (.int (0 : Int32)), .val (.int (3 : Int32)), .val (.ref b4), .unset, .unset] [(.ref a1)]))
  refine Go.step (fun t k => XS.iloadN X4.here hx rfl (hb hby d5_5) rfl k) ?_
  show Go p e below _ (T4.setTop (mkF m 6 #[.val (.ref a1), .val (.int (0 : Int32)), .val (.int (3 : Int32)), .val (.ref b4), .unset, .unset] [(.int (0 : Int32)), (.ref a1)]))
  refine Go.step (fun t k => XS.aloadN X4.here hx rfl (hb hby d5_6) rfl rfl k) ?_
  show Go p e below _ (T4.setTop (mkF m 7 #[.val (.ref a1), .val (.int (0 : Int32)), .val (.int (3 : Int32)), .val (.ref b4), .unset, .unset] [(.ref b4), (.int (0 : Int32)), (.ref a1)]))
  refine Go.step (fun t k => XS.iconst X4.here hx rfl (hb hby d5_7)  k) ?_
  show Go p e below _ (T4.setTop (mkF m 8 #[.val (.ref a1), .val (.int (0 : Int32)), .val (.int (3 : Int32)), .val (.ref b4), .unset, .unset] [(.int (0 : Int32)), (.ref b4), (.int (0 : Int32)), (.ref a1)]))
  refine Go.step (fun t k => XS.iloadN X4.here hx rfl (hb hby d5_8) rfl k) ?_
  show Go p e below _ (T4.setTop (mkF m 9 #[.val (.ref a1), .val (.int (0 : Int32)), .val (.int (3 : Int32)), .val (.ref b4), .unset, .unset] [(.int (3 : Int32)), (.int (0 : Int32)), (.ref b4), (.int (0 : Int32)), (.ref a1)]))
  obtain ⟨_, _, ⟨T5, L5, k5, n5⟩, -, X5, ⟨Lc5, hQ5, l5, y5, z5⟩, st5⟩ := Jvm.LawKit.callS X4 hx (y := (⟨"java/lang/StringUTF16", "compress", "([CI[BII)I"⟩ : MethodName)) hown (mvT hZ (hw _ (List.mem_of_getElem? (i := 24) rfl))) (mvT hZ (hw _ (List.mem_of_getElem? (i := 25) rfl))) (mvT hZ (hw _ (List.mem_of_getElem? (i := 21) rfl))) (mvT hZ (hw _ (List.mem_of_getElem? (i := 26) rfl))) (by decide) (backOf (W := 0) (rm6_3 l Z a0 hw [] a1 b4 g_a1f (fun _ => (0 : Int32)) h4 n0 Z4 A_a1_4 A_b4_4 hp9_hp20 g_b4 ne_a1_b4 hp9_hp20_x2 hp9_hp20_x3) hZ (hw _ (List.mem_of_getElem? (i := 26) rfl)) (hw _ (List.mem_of_getElem? (i := 21) rfl)) (by decide) (by decide)) (g := (mkF m 9 #[.val (.ref a1), .val (.int (0 : Int32)), .val (.int (3 : Int32)), .val (.ref b4), .unset, .unset] [(.int (3 : Int32)), (.int (0 : Int32)), (.ref b4), (.int (0 : Int32)), (.ref a1)])) rfl (by rw [hml]; rfl) (argsL := [(.ref a1), (.int (0 : Int32)), (.ref b4), (.int (0 : Int32)), (.int (3 : Int32))]) (rest := []) (lenOf pd_0 rfl) rfl (by show 2 * 0 + _ ≤ _; exact Nat.le_of_eq rfl) (hb hby d5_9) (fun _ _ => ⟨rfl, e4, (by decide : 1 + 0 ≤ _), (by decide : 3 + 0 ≤ _)⟩)
  dsimp only [Pt.U, Pt.locs, Pt.cells, Pt.slots] at X5 l5 y5 z5 st5 hQ5
  replace y5 : k5 = 1 := y5
  replace z5 : n5 = 3 := z5
  subst y5 z5
  obtain ⟨rfl, N5q, K5, Q5_0⟩ := hQ5
  have N5 : Fr n0 L5 := Eq.mpr (congrArg (Fr n0) l5) (Fr.app N0 N5q)
  have A_a1_5 := A_a1_4.keep K5 (ninS ne_a1_b4 nin0)
  have Z5 := Nat.le_trans Z4 K5.1
  have KK5 : Keep h0 T5.heap [] := KK4.trans K5 (allS (Or.inr sz_b4) all0)
  clear A_a1_4 Z4 KK4 K5
  refine Go.step st5 ?_
  show Go p e below _ (T5.setTop (mkF m 12 #[.val (.ref a1), .val (.int (0 : Int32)), .val (.int (3 : Int32)), .val (.ref b4), .unset, .unset] [(.int (3 : Int32))]))
  refine Go.step (fun t k => XS.istore X5.here hx rfl (hb hby d5_12) rfl (l' := #[.val (.ref a1), .val (.int (0 : Int32)), .val (.int (3 : Int32)), .val (.ref b4), .val (.int (3 : Int32)), .unset]) rfl k) ?_
  show Go p e below _ (T5.setTop (mkF m 14 #[.val (.ref a1), .val (.int (0 : Int32)), .val (.int (3 : Int32)), .val (.ref b4), .val (.int (3 : Int32)), .unset] []))
  refine Go.step (fun t k => XS.iload X5.here hx rfl (hb hby d5_14) rfl k) ?_
  show Go p e below _ (T5.setTop (mkF m 16 #[.val (.ref a1), .val (.int (0 : Int32)), .val (.int (3 : Int32)), .val (.ref b4), .val (.int (3 : Int32)), .unset] [(.int (3 : Int32))]))
  refine Go.step (fun t k => XS.iloadN X5.here hx rfl (hb hby d5_16) rfl k) ?_
  show Go p e below _ (T5.setTop (mkF m 17 #[.val (.ref a1), .val (.int (0 : Int32)), .val (.int (3 : Int32)), .val (.ref b4), .val (.int (3 : Int32)), .unset] [(.int (3 : Int32)), (.int (3 : Int32))]))
  refine Go.step (fun t k => XS.icmpYes X5.here hx rfl (pc0 := 17) (pc' := 57) rfl (hb hby d5_17) rfl (teq (rfl : (3 : Int32) = (3 : Int32))).1 (by decide) (by decide) k) ?_
  show Go p e below _ (T5.setTop (mkF m 57 #[.val (.ref a1), .val (.int (0 : Int32)), .val (.int (3 : Int32)), .val (.ref b4), .val (.int (3 : Int32)), .unset] []))
  refine Go.step (fun t k => XS.aloadN X5.here hx rfl (hb hby d5_57) rfl rfl k) ?_
  show Go p e below _ (T5.setTop (mkF m 58 #[.val (.ref a1), .val (.int (0 : Int32)), .val (.int (3 : Int32)), .val (.ref b4), .val (.int (3 : Int32)), .unset] [(.ref b4)]))
  refine retGR X5 hx Bd.notSynchronized Bd.returns rfl rfl (hb hby d5_58) ?_ (by decide) (by decide)
  show Q5_3 Z a1 g_a1f h0 n0 _ T5.heap _
  exact ⟨b4, rfl, N5, KK5, sz_b4, Q5_0⟩
theorem ef_7_3 (m : MethodId) (a1 : Addr) : entryFrame m #[(.ref a1), (.int (3 : Int32))] 2 = mkF m 0 #[.val (.ref a1), .val (.int (3 : Int32))] [] := by first | (simp [entryFrame, mkF, argsToLocals, Value.category]; done) | rfl
def f7_3 (g_a1f : Nat → Int32) : Int32 := (0 : Int32)
set_option maxRecDepth 65536 in
set_option maxHeartbeats 40000000 in
theorem rm7_3 (l : Launch) (Z : State) (a0 : Array Value) (hw : ∀ d ∈ tables_1, d.before a0 Z = true) (ws : List Jvm.Cond) (a1 : Addr) (g_a1f : Nat → Int32) (h0 : Heap) (n0 : Nat) (Z0 : n0 ≤ h0.size) (A_a1 : Ary Z h0 a1 .byte 3 (fun i => .int (g_a1f i))) :
    MetFree l (⟨"java/lang/StringUTF16", "coderFromArrayLen", "([BI)B"⟩ : MethodName) (head1 (Jvm.Cond.code (⟨"java/lang/StringUTF16", "coderFromArrayLen", "([BI)B"⟩ : MethodName) jdk_52_method_15_code 2 (some .byte) :: ws) ({ frames := 0, cells := 0, slots := 0, locals := 0 } : Room)) (fun a U => a = #[(.ref a1), (.int (3 : Int32))] ∧ Z.Warmed39 U.vm ∧ U.heap = h0) (fun _ _ _ _ _ => True) (fun _ U o U' => ∃ v L, o = .returned v ∧ QP (.int (f7_3 g_a1f)) h0 n0 v U'.heap L ∧ FrameEnd U o U' L ({ frames := 0, cells := 0, slots := 0, locals := 0 } : Room).cells ({ frames := 0, cells := 0, slots := 0, locals := 0 } : Room).slots) := by
  refine MetFree.of_bodySF (plainFor_of_name pn_0) hisR ?_
  intro p e s m args below meth c s₁ Bd hml0 hP hK
  obtain ⟨rfl, hZ, hh⟩ := hP
  have hx := Bd.exec
  have hby := Bd.bytes
  have hml : c.maxLocals = 2 := hml0
  have hown : s.vm.findClass "java/lang/StringUTF16" = some m.cls := findClass_of_methodNamed Bd.named
  have hnm := (name_of_methodNamed Bd.named Bd.method).1
  have X0 : Stand p l e ({ frames := 0, cells := 0, slots := 0, locals := 0 } : Room) s m #[(.ref a1), (.int (3 : Int32))] below meth c s₁ [] 0 0 := Stand.of_body Bd
  have e0 : s₁.heap = h0 := by rw [← hh, Bd.state]; rfl
  have N0 := Fr.nil n0
  refine Go.done (Go.step (fun t k => castTop (ef_7_3 m a1) k) ?_)
  have KK0 : Keep h0 h0 [] := Keep.refl _ _
  show Go p e below _ (s₁.setTop (mkF m 0 #[.val (.ref a1), .val (.int (3 : Int32))] []))
  refine Go.step (fun t k => XS.iloadN X0.here hx rfl (hb hby d7_0) rfl k) ?_
  show Go p e below _ (s₁.setTop (mkF m 1 #[.val (.ref a1), .val (.int (3 : Int32))] [(.int (3 : Int32))]))
  refine Go.step (fun t k => XS.aloadN X0.here hx rfl (hb hby d7_1) rfl rfl k) ?_
  show Go p e below _ (s₁.setTop (mkF m 2 #[.val (.ref a1), .val (.int (3 : Int32))] [(.ref a1), (.int (3 : Int32))]))
  refine Go.step (lenA X0 hx hZ e0 A_a1 (g := (mkF m 2 #[.val (.ref a1), .val (.int (3 : Int32))] [(.ref a1), (.int (3 : Int32))])) rfl rfl (hb hby d7_2)) ?_
  show Go p e below _ (s₁.setTop (mkF m 3 #[.val (.ref a1), .val (.int (3 : Int32))] [(.int (3 : Int32)), (.int (3 : Int32))]))
  refine Go.step (fun t k => XS.isub X0.here hx rfl (hb hby d7_3) rfl k) ?_
  show Go p e below _ (s₁.setTop (mkF m 4 #[.val (.ref a1), .val (.int (3 : Int32))] [(.int (0 : Int32))]))
  refine Go.step (fun t k => XS.bipush X0.here hx rfl (hb hby d7_4)  k) ?_
  show Go p e below _ (s₁.setTop (mkF m 6 #[.val (.ref a1), .val (.int (3 : Int32))] [(.int (31 : Int32)), (.int (0 : Int32))]))
  refine Go.step (fun t k => XS.iushr X0.here hx rfl (hb hby d7_6) rfl k) ?_
  show Go p e below _ (s₁.setTop (mkF m 7 #[.val (.ref a1), .val (.int (3 : Int32))] [(.int (0 : Int32))]))
  refine Go.step (fun t k => XS.i2b X0.here hx rfl (hb hby d7_7) rfl k) ?_
  show Go p e below _ (s₁.setTop (mkF m 8 #[.val (.ref a1), .val (.int (3 : Int32))] [(.int (0 : Int32))]))
  exact retGN X0 hx Bd.notSynchronized Bd.returns (t := .byte) (by simp) (z' := (0 : Int32)) rfl (hb hby d7_8) ⟨by first | rfl | (simp only [f7_3]; done) | (simp [f7_3]; done), N0, e0⟩ (by decide) (by decide)
theorem ef_3_3 (m : MethodId) (a1 : Addr) (a2 : Addr) : entryFrame m #[(.ref a1), (.ref a2), (.int (0 : Int32)), (.int (3 : Int32)), .null] 6 = mkF m 0 #[.val (.ref a1), .val (.ref a2), .val (.int (0 : Int32)), .val (.int (3 : Int32)), .val .null, .unset] [] := by first | (simp [entryFrame, mkF, argsToLocals, Value.category]; done) | rfl
def Q3_3 (Z : State) (a1 : Addr) (a2 : Addr) (g_a2f : Nat → Int32) (u_coder_a1 : Value) (u_value_a1 : Value) (wC : Int32) (h0 : Heap) (n0 : Nat) (v : Option Value) (h : Heap) (L : List Loc) : Prop := v = none ∧ Fr n0 L ∧ Keep h0 h [a1] ∧ Exa Z h a1 "java/lang/String" ∧ Fld Z h a1 "java/lang/String" "coder" "B" (.int (0 : Int32))
set_option maxRecDepth 65536 in
set_option maxHeartbeats 40000000 in
theorem rm3_3 (l : Launch) (Z : State) (a0 : Array Value) (hw : ∀ d ∈ tables_1, d.before a0 Z = true) (ws : List Jvm.Cond) (a1 : Addr) (a2 : Addr) (g_a2f : Nat → Int32) (u_coder_a1 : Value) (u_value_a1 : Value) (wC : Int32) (h0 : Heap) (n0 : Nat) (Z0 : n0 ≤ h0.size) (A_a2 : Ary Z h0 a2 .char 3 (fun i => .int (g_a2f i))) (E_a1 : Exa Z h0 a1 "java/lang/String") (F_coder_a1 : Fld Z h0 a1 "java/lang/String" "coder" "B" u_coder_a1) (F_value_a1 : Fld Z h0 a1 "java/lang/String" "value" "[B" u_value_a1) (hC : ¬ (wC = (0 : Int32))) (S_COMPACT_STRINGS : Sta Z Z.heap "java/lang/String" "COMPACT_STRINGS" "Z" (.int wC)) (hO : Old Z n0 h0) (hp36_hp9_hp20 : ¬ ((255 : Int32) < (g_a2f 0))) (hp36_hp9_hp20_x2 : ¬ ((255 : Int32) < (g_a2f 1))) (hp36_hp9_hp20_x3 : ¬ ((255 : Int32) < (g_a2f 2))) (g_a1 : n0 ≤ a1) (hne_a2_a1 : a2 ≠ a1) :
    MetFree l (⟨"java/lang/String", "<init>", "([CIILjava/lang/Void;)V"⟩ : MethodName) (head1 (Jvm.Cond.code (⟨"java/lang/String", "<init>", "([CIILjava/lang/Void;)V"⟩ : MethodName) jdk_42_method_149_code 6 none :: ws) ({ frames := 2, cells := 1, slots := 3, locals := 35 } : Room)) (fun a U => a = #[(.ref a1), (.ref a2), (.int (0 : Int32)), (.int (3 : Int32)), .null] ∧ Z.Warmed39 U.vm ∧ U.heap = h0) (fun _ _ _ _ _ => True) (fun _ U o U' => ∃ v L, o = .returned v ∧ Q3_3 Z a1 a2 g_a2f u_coder_a1 u_value_a1 wC h0 n0 v U'.heap L ∧ FrameEnd U o U' L ({ frames := 2, cells := 1, slots := 3, locals := 35 } : Room).cells ({ frames := 2, cells := 1, slots := 3, locals := 35 } : Room).slots) := by
  refine MetFree.of_bodySF (plainFor_of_name pn_1) hisR ?_
  intro p e s m args below meth c s₁ Bd hml0 hP hK
  obtain ⟨rfl, hZ, hh⟩ := hP
  have hx := Bd.exec
  have hby := Bd.bytes
  have hml : c.maxLocals = 6 := hml0
  have hown : s.vm.findClass "java/lang/String" = some m.cls := findClass_of_methodNamed Bd.named
  have hnm := (name_of_methodNamed Bd.named Bd.method).1
  have X0 : Stand p l e ({ frames := 2, cells := 1, slots := 3, locals := 35 } : Room) s m #[(.ref a1), (.ref a2), (.int (0 : Int32)), (.int (3 : Int32)), .null] below meth c s₁ [] 0 0 := Stand.of_body Bd
  have e0 : s₁.heap = h0 := by rw [← hh, Bd.state]; rfl
  have N0 := Fr.nil n0
  refine Go.done (Go.step (fun t k => castTop (ef_3_3 m a1 a2) k) ?_)
  have KK0 : Keep h0 h0 [a1] := Keep.refl _ _
  show Go p e below _ (s₁.setTop (mkF m 0 #[.val (.ref a1), .val (.ref a2), .val (.int (0 : Int32)), .val (.int (3 : Int32)), .val .null, .unset] []))
  refine Go.step (fun t k => XS.aloadN X0.here hx rfl (hb hby d3_0) rfl rfl k) ?_
  show Go p e below _ (s₁.setTop (mkF m 1 #[.val (.ref a1), .val (.ref a2), .val (.int (0 : Int32)), .val (.int (3 : Int32)), .val .null, .unset] [(.ref a1)]))
  obtain ⟨T6, X6, e6, st6⟩ := initO X0 hx hZ hown (hw _ (List.mem_of_getElem? (i := 15) rfl)) (hw _ (List.mem_of_getElem? (i := 16) rfl)) (hw _ (List.mem_of_getElem? (i := 17) rfl)) e0 (g := (mkF m 1 #[.val (.ref a1), .val (.ref a2), .val (.int (0 : Int32)), .val (.int (3 : Int32)), .val .null, .unset] [(.ref a1)])) rfl (by rw [hml]; rfl) rfl (hb hby d3_1) (by decide) (W := 0) (by show 2 * 0 + _ ≤ _; exact Nat.le_of_eq rfl) (by decide)
  refine Go.step st6 ?_
  show Go p e below _ (T6.setTop (mkF m 4 #[.val (.ref a1), .val (.ref a2), .val (.int (0 : Int32)), .val (.int (3 : Int32)), .val .null, .unset] []))
  refine Go.step (fun t k => XS.iloadN X6.here hx rfl (hb hby d3_4) rfl k) ?_
  show Go p e below _ (T6.setTop (mkF m 5 #[.val (.ref a1), .val (.ref a2), .val (.int (0 : Int32)), .val (.int (3 : Int32)), .val .null, .unset] [(.int (3 : Int32))]))
  refine Go.step (fun t k => XS.ifYes X6.here hx rfl (pc0 := 5) (pc' := 27) rfl (hb hby d3_5) rfl ((if0 _ _).trans (feq (by decide : ¬ ((3 : Int32) = (0 : Int32)))).2) (by decide) (by decide) k) ?_
  show Go p e below _ (T6.setTop (mkF m 27 #[.val (.ref a1), .val (.ref a2), .val (.int (0 : Int32)), .val (.int (3 : Int32)), .val .null, .unset] []))
  obtain ⟨T7, X7, e7, st7⟩ := getS2 X6 hx hZ hown (host := "") (Or.inl (hw _ (List.mem_of_getElem? (i := 18) rfl))) Via.refl e6 (S_COMPACT_STRINGS.ext hO.2) (g := (mkF m 27 #[.val (.ref a1), .val (.ref a2), .val (.int (0 : Int32)), .val (.int (3 : Int32)), .val .null, .unset] [])) rfl (hb hby d3_27)
  refine Go.step st7 ?_
  show Go p e below _ (T7.setTop (mkF m 30 #[.val (.ref a1), .val (.ref a2), .val (.int (0 : Int32)), .val (.int (3 : Int32)), .val .null, .unset] [(.int wC)]))
  refine Go.step (fun t k => XS.ifNo X7.here hx rfl (hb hby d3_30) rfl ((if0 _ _).trans (feq (hC : ¬ (wC = (0 : Int32)))).1) k) ?_
  show Go p e below _ (T7.setTop (mkF m 33 #[.val (.ref a1), .val (.ref a2), .val (.int (0 : Int32)), .val (.int (3 : Int32)), .val .null, .unset] []))
  refine Go.step (fun t k => XS.aloadN X7.here hx rfl (hb hby d3_33) rfl rfl k) ?_
  show Go p e below _ (T7.setTop (mkF m 34 #[.val (.ref a1), .val (.ref a2), .val (.int (0 : Int32)), .val (.int (3 : Int32)), .val .null, .unset] [(.ref a2)]))
  refine Go.step (fun t k => XS.iloadN X7.here hx rfl (hb hby d3_34) rfl k) ?_
  show Go p e below _ (T7.setTop (mkF m 35 #[.val (.ref a1), .val (.ref a2), .val (.int (0 : Int32)), .val (.int (3 : Int32)), .val .null, .unset] [(.int (0 : Int32)), (.ref a2)]))
  refine Go.step (fun t k => XS.iloadN X7.here hx rfl (hb hby d3_35) rfl k) ?_
  show Go p e below _ (T7.setTop (mkF m 36 #[.val (.ref a1), .val (.ref a2), .val (.int (0 : Int32)), .val (.int (3 : Int32)), .val .null, .unset] [(.int (3 : Int32)), (.int (0 : Int32)), (.ref a2)]))
  obtain ⟨_, _, ⟨T8, L8, k8, n8⟩, -, X8, ⟨Lc8, hQ8, l8, y8, z8⟩, st8⟩ := Jvm.LawKit.callS X7 hx (y := (⟨"java/lang/StringUTF16", "compress", "([CII)[B"⟩ : MethodName)) hown (mvT hZ (hw _ (List.mem_of_getElem? (i := 19) rfl))) (mvT hZ (hw _ (List.mem_of_getElem? (i := 20) rfl))) (mvT hZ (hw _ (List.mem_of_getElem? (i := 21) rfl))) (mvT hZ (hw _ (List.mem_of_getElem? (i := 22) rfl))) (by decide) (backOf (W := 0) (rm5_3 l Z a0 hw [] a2 g_a2f h0 n0 Z0 A_a2 hp36_hp9_hp20 hp36_hp9_hp20_x2 hp36_hp9_hp20_x3) hZ (hw _ (List.mem_of_getElem? (i := 22) rfl)) (hw _ (List.mem_of_getElem? (i := 21) rfl)) (by decide) (by decide)) (g := (mkF m 36 #[.val (.ref a1), .val (.ref a2), .val (.int (0 : Int32)), .val (.int (3 : Int32)), .val .null, .unset] [(.int (3 : Int32)), (.int (0 : Int32)), (.ref a2)])) rfl (by rw [hml]; rfl) (argsL := [(.ref a2), (.int (0 : Int32)), (.int (3 : Int32))]) (rest := []) (lenOf pd_1 rfl) rfl (by show 2 * 0 + _ ≤ _; exact Nat.le_of_eq rfl) (hb hby d3_36) (fun _ _ => ⟨rfl, e7, (by decide : 0 + 1 ≤ _), (by decide : 0 + 3 ≤ _)⟩)
  dsimp only [Pt.U, Pt.locs, Pt.cells, Pt.slots] at X8 l8 y8 z8 st8 hQ8
  replace y8 : k8 = 1 := y8
  replace z8 : n8 = 3 := z8
  subst y8 z8
  obtain ⟨b8_0, rfl, N8q, K8, sz8_0, Q8_0⟩ := hQ8
  have N8 : Fr n0 L8 := Eq.mpr (congrArg (Fr n0) l8) (Fr.app N0 N8q)
  have g_b8_0 : n0 ≤ b8_0 := Nat.le_trans Z0 sz8_0
  have sz_b8_0 : h0.size ≤ b8_0 := Nat.le_trans KK0.1 sz8_0
  have ne_a2_b8_0 : a2 ≠ b8_0 := Nat.ne_of_lt (Nat.lt_of_lt_of_le A_a2.lt sz8_0)
  have ne_a1_b8_0 : a1 ≠ b8_0 := Nat.ne_of_lt (Nat.lt_of_lt_of_le E_a1.lt sz8_0)
  have A_a2_8 := A_a2.keep K8 nin0
  have E_a1_8 := E_a1.keep K8
  have F_coder_a1_8 := F_coder_a1.keep K8 nin0
  have F_value_a1_8 := F_value_a1.keep K8 nin0
  have O8 := hO.keep K8 all0
  have Z8 := Nat.le_trans Z0 K8.1
  have KK8 : Keep h0 T8.heap [a1] := KK0.trans K8 all0
  clear A_a2 E_a1 F_coder_a1 F_value_a1 hO Z0 KK0 K8
  refine Go.step st8 ?_
  show Go p e below _ (T8.setTop (mkF m 39 #[.val (.ref a1), .val (.ref a2), .val (.int (0 : Int32)), .val (.int (3 : Int32)), .val .null, .unset] [(.ref b8_0)]))
  refine Go.step (fun t k => XS.astore X8.here hx rfl (hb hby d3_39) rfl rfl (l' := #[.val (.ref a1), .val (.ref a2), .val (.int (0 : Int32)), .val (.int (3 : Int32)), .val .null, .val (.ref b8_0)]) rfl k) ?_
  show Go p e below _ (T8.setTop (mkF m 41 #[.val (.ref a1), .val (.ref a2), .val (.int (0 : Int32)), .val (.int (3 : Int32)), .val .null, .val (.ref b8_0)] []))
  refine Go.step (fun t k => XS.aloadN X8.here hx rfl (hb hby d3_41) rfl rfl k) ?_
  show Go p e below _ (T8.setTop (mkF m 42 #[.val (.ref a1), .val (.ref a2), .val (.int (0 : Int32)), .val (.int (3 : Int32)), .val .null, .val (.ref b8_0)] [(.ref a1)]))
  refine Go.step (fun t k => XS.aload X8.here hx rfl (hb hby d3_42) rfl rfl k) ?_
  show Go p e below _ (T8.setTop (mkF m 44 #[.val (.ref a1), .val (.ref a2), .val (.int (0 : Int32)), .val (.int (3 : Int32)), .val .null, .val (.ref b8_0)] [(.ref b8_0), (.ref a1)]))
  refine Go.step (fun t k => XS.iloadN X8.here hx rfl (hb hby d3_44) rfl k) ?_
  show Go p e below _ (T8.setTop (mkF m 45 #[.val (.ref a1), .val (.ref a2), .val (.int (0 : Int32)), .val (.int (3 : Int32)), .val .null, .val (.ref b8_0)] [(.int (3 : Int32)), (.ref b8_0), (.ref a1)]))
  obtain ⟨_, _, ⟨T9, L9, k9, n9⟩, -, X9, ⟨Lc9, hQ9, l9, y9, z9⟩, st9⟩ := Jvm.LawKit.callS X8 hx (y := (⟨"java/lang/StringUTF16", "coderFromArrayLen", "([BI)B"⟩ : MethodName)) hown (mvT hZ (hw _ (List.mem_of_getElem? (i := 27) rfl))) (mvT hZ (hw _ (List.mem_of_getElem? (i := 28) rfl))) (mvT hZ (hw _ (List.mem_of_getElem? (i := 21) rfl))) (mvT hZ (hw _ (List.mem_of_getElem? (i := 29) rfl))) (by decide) (backOf (W := 1) (rm7_3 l Z a0 hw [] b8_0 (upA (upA (upA (fun _ => (0 : Int32)) 0 (nar .byte ((g_a2f 0).toInt8.toInt32))) 1 (nar .byte ((g_a2f 1).toInt8.toInt32))) 2 (nar .byte ((g_a2f 2).toInt8.toInt32))) T8.heap n0 Z8 Q8_0) hZ (hw _ (List.mem_of_getElem? (i := 29) rfl)) (hw _ (List.mem_of_getElem? (i := 21) rfl)) (by decide) (by decide)) (g := (mkF m 45 #[.val (.ref a1), .val (.ref a2), .val (.int (0 : Int32)), .val (.int (3 : Int32)), .val .null, .val (.ref b8_0)] [(.int (3 : Int32)), (.ref b8_0), (.ref a1)])) rfl (by rw [hml]; rfl) (argsL := [(.ref b8_0), (.int (3 : Int32))]) (rest := [(.ref a1)]) (lenOf pd_2 rfl) rfl (by show 2 * 0 + _ ≤ _; exact Nat.le_of_eq rfl) (hb hby d3_45) (fun _ _ => ⟨rfl, rfl, (by decide : 1 + 0 ≤ _), (by decide : 3 + 0 ≤ _)⟩)
  dsimp only [Pt.U, Pt.locs, Pt.cells, Pt.slots] at X9 l9 y9 z9 st9 hQ9
  replace y9 : k9 = 1 := y9
  replace z9 : n9 = 3 := z9
  subst y9 z9
  obtain ⟨rfl, N9q, e9⟩ := hQ9
  have N9 : Fr n0 L9 := Eq.mpr (congrArg (Fr n0) l9) (Fr.app N8 N9q)
  refine Go.step st9 ?_
  show Go p e below _ (T9.setTop (mkF m 48 #[.val (.ref a1), .val (.ref a2), .val (.int (0 : Int32)), .val (.int (3 : Int32)), .val .null, .val (.ref b8_0)] [(.int (0 : Int32)), (.ref a1)]))
  obtain ⟨T10, h10, X10, e10, W10, st10⟩ := putFN X9 hx hZ hown (hw _ (List.mem_of_getElem? (i := 30) rfl)) Via.refl e9 F_coder_a1_8 E_a1_8 (Or.inr ⟨(hw _ (List.mem_of_getElem? (i := 31) rfl)), rfl, hnm⟩) (hw _ (List.mem_of_getElem? (i := 6) rfl)) (ty := .byte) (v' := .int (0 : Int32)) (by decide) rfl (by decide) (g := (mkF m 48 #[.val (.ref a1), .val (.ref a2), .val (.int (0 : Int32)), .val (.int (3 : Int32)), .val .null, .val (.ref b8_0)] [(.int (0 : Int32)), (.ref a1)])) rfl rfl (hb hby d3_48)
  refine Go.step st10 ?_
  have N10 := Fr.snoc X10 N9 g_a1
  have A_a2_10 := A_a2_8.other W10 hne_a2_a1
  have E_a1_10 := E_a1_8.wr W10
  have F_value_a1_10 := F_value_a1_8.other W10 (Or.inr (slot_ne (Or.inr (hw _ (List.mem_of_getElem? (i := 33) rfl))) (Or.inr (hw _ (List.mem_of_getElem? (i := 31) rfl))) (by decide) (t := (.array .byte)) (t' := .byte) (by decide) (by decide)))
  have A_b8_0_10 := Q8_0.other W10 (Ne.symm ne_a1_b8_0)
  have O10 := O8.wr W10 g_a1
  have Z10 := Nat.le_trans Z8 (Keep.of_wr W10).1
  have KK10 : Keep h0 h10 [a1] := KK8.wr W10 (Or.inl (by simp))
  clear A_a2_8 E_a1_8 F_value_a1_8 Q8_0 O8 Z8 KK8
  have F_coder_a1_10 := F_coder_a1_8.same W10
  show Go p e below _ (T10.setTop (mkF m 51 #[.val (.ref a1), .val (.ref a2), .val (.int (0 : Int32)), .val (.int (3 : Int32)), .val .null, .val (.ref b8_0)] []))
  refine Go.step (fun t k => XS.aloadN X10.here hx rfl (hb hby d3_51) rfl rfl k) ?_
  show Go p e below _ (T10.setTop (mkF m 52 #[.val (.ref a1), .val (.ref a2), .val (.int (0 : Int32)), .val (.int (3 : Int32)), .val .null, .val (.ref b8_0)] [(.ref a1)]))
  refine Go.step (fun t k => XS.aload X10.here hx rfl (hb hby d3_52) rfl rfl k) ?_
  show Go p e below _ (T10.setTop (mkF m 54 #[.val (.ref a1), .val (.ref a2), .val (.int (0 : Int32)), .val (.int (3 : Int32)), .val .null, .val (.ref b8_0)] [(.ref b8_0), (.ref a1)]))
  obtain ⟨T11, h11, X11, e11, W11, st11⟩ := putF X10 hx hZ hown (host := "") (Or.inl (hw _ (List.mem_of_getElem? (i := 32) rfl))) Via.refl e10 F_value_a1_10 E_a1_10 (Or.inr ⟨(hw _ (List.mem_of_getElem? (i := 33) rfl)), rfl, hnm⟩) (hw _ (List.mem_of_getElem? (i := 6) rfl)) (ty := (.array .byte)) (by decide) rfl rfl (g := (mkF m 54 #[.val (.ref a1), .val (.ref a2), .val (.int (0 : Int32)), .val (.int (3 : Int32)), .val .null, .val (.ref b8_0)] [(.ref b8_0), (.ref a1)])) rfl rfl (hb hby d3_54)
  refine Go.step st11 ?_
  have N11 := Fr.snoc X11 N10 g_a1
  have A_a2_11 := A_a2_10.other W11 hne_a2_a1
  have E_a1_11 := E_a1_10.wr W11
  have F_coder_a1_11 := F_coder_a1_10.other W11 (Or.inr (slot_ne (Or.inr (hw _ (List.mem_of_getElem? (i := 31) rfl))) (Or.inr (hw _ (List.mem_of_getElem? (i := 33) rfl))) (by decide) (t := .byte) (t' := (.array .byte)) (by decide) (by decide)))
  have A_b8_0_11 := A_b8_0_10.other W11 (Ne.symm ne_a1_b8_0)
  have O11 := O10.wr W11 g_a1
  have Z11 := Nat.le_trans Z10 (Keep.of_wr W11).1
  have KK11 : Keep h0 h11 [a1] := KK10.wr W11 (Or.inl (by simp))
  clear A_a2_10 E_a1_10 F_coder_a1_10 A_b8_0_10 O10 Z10 KK10
  have F_value_a1_11 := F_value_a1_10.same W11
  show Go p e below _ (T11.setTop (mkF m 57 #[.val (.ref a1), .val (.ref a2), .val (.int (0 : Int32)), .val (.int (3 : Int32)), .val .null, .val (.ref b8_0)] []))
  refine retGV X11 hx Bd.notSynchronized Bd.returns (hb hby d3_57) ?_ (by decide) (by decide)
  show Q3_3 Z a1 a2 g_a2f u_coder_a1 u_value_a1 wC h0 n0 _ T11.heap _
  rw [e11]
  exact ⟨rfl, N11, KK11, E_a1_11, F_coder_a1_11⟩
theorem ef_2_3 (m : MethodId) (a1 : Addr) (a2 : Addr) : entryFrame m #[(.ref a1), (.ref a2)] 2 = mkF m 0 #[.val (.ref a1), .val (.ref a2)] [] := by first | (simp [entryFrame, mkF, argsToLocals, Value.category]; done) | rfl
def Q2_3 (Z : State) (a1 : Addr) (a2 : Addr) (g_a2f : Nat → Int32) (u_coder_a1 : Value) (u_value_a1 : Value) (wC : Int32) (h0 : Heap) (n0 : Nat) (v : Option Value) (h : Heap) (L : List Loc) : Prop := v = none ∧ Fr n0 L ∧ Keep h0 h [a1] ∧ Exa Z h a1 "java/lang/String" ∧ Fld Z h a1 "java/lang/String" "coder" "B" (.int (0 : Int32))
set_option maxRecDepth 65536 in
set_option maxHeartbeats 40000000 in
theorem rm2_3 (l : Launch) (Z : State) (a0 : Array Value) (hw : ∀ d ∈ tables_1, d.before a0 Z = true) (ws : List Jvm.Cond) (a1 : Addr) (a2 : Addr) (g_a2f : Nat → Int32) (u_coder_a1 : Value) (u_value_a1 : Value) (wC : Int32) (h0 : Heap) (n0 : Nat) (Z0 : n0 ≤ h0.size) (A_a2 : Ary Z h0 a2 .char 3 (fun i => .int (g_a2f i))) (E_a1 : Exa Z h0 a1 "java/lang/String") (F_coder_a1 : Fld Z h0 a1 "java/lang/String" "coder" "B" u_coder_a1) (F_value_a1 : Fld Z h0 a1 "java/lang/String" "value" "[B" u_value_a1) (hC : ¬ (wC = (0 : Int32))) (S_COMPACT_STRINGS : Sta Z Z.heap "java/lang/String" "COMPACT_STRINGS" "Z" (.int wC)) (hO : Old Z n0 h0) (g_a1 : n0 ≤ a1) (hp6_hp36_hp9_hp20 : ¬ ((255 : Int32) < (g_a2f 0))) (hp6_hp36_hp9_hp20_x2 : ¬ ((255 : Int32) < (g_a2f 1))) (hp6_hp36_hp9_hp20_x3 : ¬ ((255 : Int32) < (g_a2f 2))) (hne_a2_a1 : a2 ≠ a1) :
    MetFree l (⟨"java/lang/String", "<init>", "([C)V"⟩ : MethodName) (head1 (Jvm.Cond.code (⟨"java/lang/String", "<init>", "([C)V"⟩ : MethodName) jdk_42_method_3_code 2 none :: ws) ({ frames := 3, cells := 1, slots := 3, locals := 52 } : Room)) (fun a U => a = #[(.ref a1), (.ref a2)] ∧ Z.Warmed39 U.vm ∧ U.heap = h0) (fun _ _ _ _ _ => True) (fun _ U o U' => ∃ v L, o = .returned v ∧ Q2_3 Z a1 a2 g_a2f u_coder_a1 u_value_a1 wC h0 n0 v U'.heap L ∧ FrameEnd U o U' L ({ frames := 3, cells := 1, slots := 3, locals := 52 } : Room).cells ({ frames := 3, cells := 1, slots := 3, locals := 52 } : Room).slots) := by
  refine MetFree.of_bodySF (plainFor_of_name pn_1) hisR ?_
  intro p e s m args below meth c s₁ Bd hml0 hP hK
  obtain ⟨rfl, hZ, hh⟩ := hP
  have hx := Bd.exec
  have hby := Bd.bytes
  have hml : c.maxLocals = 2 := hml0
  have hown : s.vm.findClass "java/lang/String" = some m.cls := findClass_of_methodNamed Bd.named
  have hnm := (name_of_methodNamed Bd.named Bd.method).1
  have X0 : Stand p l e ({ frames := 3, cells := 1, slots := 3, locals := 52 } : Room) s m #[(.ref a1), (.ref a2)] below meth c s₁ [] 0 0 := Stand.of_body Bd
  have e0 : s₁.heap = h0 := by rw [← hh, Bd.state]; rfl
  have N0 := Fr.nil n0
  refine Go.done (Go.step (fun t k => castTop (ef_2_3 m a1 a2) k) ?_)
  have KK0 : Keep h0 h0 [a1] := Keep.refl _ _
  show Go p e below _ (s₁.setTop (mkF m 0 #[.val (.ref a1), .val (.ref a2)] []))
  refine Go.step (fun t k => XS.aloadN X0.here hx rfl (hb hby d2_0) rfl rfl k) ?_
  show Go p e below _ (s₁.setTop (mkF m 1 #[.val (.ref a1), .val (.ref a2)] [(.ref a1)]))
  refine Go.step (fun t k => XS.aloadN X0.here hx rfl (hb hby d2_1) rfl rfl k) ?_
  show Go p e below _ (s₁.setTop (mkF m 2 #[.val (.ref a1), .val (.ref a2)] [(.ref a2), (.ref a1)]))
  refine Go.step (fun t k => XS.iconst X0.here hx rfl (hb hby d2_2)  k) ?_
  show Go p e below _ (s₁.setTop (mkF m 3 #[.val (.ref a1), .val (.ref a2)] [(.int (0 : Int32)), (.ref a2), (.ref a1)]))
  refine Go.step (fun t k => XS.aloadN X0.here hx rfl (hb hby d2_3) rfl rfl k) ?_
  show Go p e below _ (s₁.setTop (mkF m 4 #[.val (.ref a1), .val (.ref a2)] [(.ref a2), (.int (0 : Int32)), (.ref a2), (.ref a1)]))
  refine Go.step (lenA X0 hx hZ e0 A_a2 (g := (mkF m 4 #[.val (.ref a1), .val (.ref a2)] [(.ref a2), (.int (0 : Int32)), (.ref a2), (.ref a1)])) rfl rfl (hb hby d2_4)) ?_
  show Go p e below _ (s₁.setTop (mkF m 5 #[.val (.ref a1), .val (.ref a2)] [(.int (3 : Int32)), (.int (0 : Int32)), (.ref a2), (.ref a1)]))
  refine Go.step (fun t k => XS.aconstNull X0.here hx rfl (hb hby d2_5)  k) ?_
  show Go p e below _ (s₁.setTop (mkF m 6 #[.val (.ref a1), .val (.ref a2)] [.null, (.int (3 : Int32)), (.int (0 : Int32)), (.ref a2), (.ref a1)]))
  obtain ⟨_, _, ⟨T3, L3, k3, n3⟩, -, X3, ⟨Lc3, hQ3, l3, y3, z3⟩, st3⟩ := X0.specialBack hx (y := (⟨"java/lang/String", "<init>", "([CIILjava/lang/Void;)V"⟩ : MethodName)) rfl hown (mvT hZ (hw _ (List.mem_of_getElem? (i := 11) rfl))) (mvT hZ (hw _ (List.mem_of_getElem? (i := 12) rfl))) (mvT hZ (hw _ (List.mem_of_getElem? (i := 14) rfl))) (by decide) (backOf (W := 0) (rm3_3 l Z a0 hw [] a1 a2 g_a2f u_coder_a1 u_value_a1 wC h0 n0 Z0 A_a2 E_a1 F_coder_a1 F_value_a1 hC S_COMPACT_STRINGS hO hp6_hp36_hp9_hp20 hp6_hp36_hp9_hp20_x2 hp6_hp36_hp9_hp20_x3 g_a1 hne_a2_a1) hZ (hw _ (List.mem_of_getElem? (i := 14) rfl)) (hw _ (List.mem_of_getElem? (i := 7) rfl)) (by decide) (by decide)) (g := (mkF m 6 #[.val (.ref a1), .val (.ref a2)] [.null, (.int (3 : Int32)), (.int (0 : Int32)), (.ref a2), (.ref a1)])) rfl (by rw [hml]; rfl) (Steps.refl _) (a := a1) (argsL := [(.ref a2), (.int (0 : Int32)), (.int (3 : Int32)), .null]) (rest := []) (lenOf pd_3 rfl) rfl (by show 2 * 0 + _ ≤ _; exact Nat.le_of_eq rfl) (hb hby d2_6) (fun _ _ => ⟨rfl, e0, (by decide : 0 + 1 ≤ _), (by decide : 0 + 3 ≤ _)⟩)
  dsimp only [Pt.U, Pt.locs, Pt.cells, Pt.slots] at X3 l3 y3 z3 st3 hQ3
  replace y3 : k3 = 1 := y3
  replace z3 : n3 = 3 := z3
  subst y3 z3
  obtain ⟨rfl, N3q, K3, Q3_0, Q3_1⟩ := hQ3
  have N3 : Fr n0 L3 := Eq.mpr (congrArg (Fr n0) l3) (Fr.app N0 N3q)
  have A_a2_3 := A_a2.keep K3 (ninS hne_a2_a1 nin0)
  have E_a1_3 := E_a1.keep K3
  have O3 := hO.keep K3 (allS g_a1 all0)
  have Z3 := Nat.le_trans Z0 K3.1
  have KK3 : Keep h0 T3.heap [a1] := KK0.trans K3 (allS (Or.inl (by simp)) all0)
  clear A_a2 E_a1 hO Z0 KK0 K3
  refine Go.trans st3 ?_
  show Go p e below _ (T3.setTop (mkF m 9 #[.val (.ref a1), .val (.ref a2)] []))
  refine retGV X3 hx Bd.notSynchronized Bd.returns (hb hby d2_9) ?_ (by decide) (by decide)
  show Q2_3 Z a1 a2 g_a2f u_coder_a1 u_value_a1 wC h0 n0 _ T3.heap _
  exact ⟨rfl, N3, KK3, Q3_0, Q3_1⟩
theorem d3_8 : decode jdk_42_method_149_code 8 = .ok (.aload_n 0, 1) := by decide +kernel
theorem d3_9 : decode jdk_42_method_149_code 9 = .ok (.ldc 7, 2) := by decide +kernel
theorem d3_11 : decode jdk_42_method_149_code 11 = .ok (.getfield 9, 3) := by decide +kernel
theorem d3_14 : decode jdk_42_method_149_code 14 = .ok (.putfield 9, 3) := by decide +kernel
theorem d3_17 : decode jdk_42_method_149_code 17 = .ok (.aload_n 0, 1) := by decide +kernel
theorem d3_18 : decode jdk_42_method_149_code 18 = .ok (.ldc 7, 2) := by decide +kernel
theorem d3_20 : decode jdk_42_method_149_code 20 = .ok (.getfield 15, 3) := by decide +kernel
theorem d3_23 : decode jdk_42_method_149_code 23 = .ok (.putfield 15, 3) := by decide +kernel
theorem d3_26 : decode jdk_42_method_149_code 26 = .ok (.return_, 1) := by decide +kernel
theorem ef_3_0 (m : MethodId) (a1 : Addr) (a2 : Addr) : entryFrame m #[(.ref a1), (.ref a2), (.int (0 : Int32)), (.int (0 : Int32)), .null] 6 = mkF m 0 #[.val (.ref a1), .val (.ref a2), .val (.int (0 : Int32)), .val (.int (0 : Int32)), .val .null, .unset] [] := by first | (simp [entryFrame, mkF, argsToLocals, Value.category]; done) | rfl
def Q3_0 (Z : State) (a1 : Addr) (a2 : Addr) (u_value_a1 : Value) (u_coder_a1 : Value) (h0 : Heap) (n0 : Nat) (v : Option Value) (h : Heap) (L : List Loc) : Prop := v = none ∧ Fr n0 L ∧ Keep h0 h [a1] ∧ Exa Z h a1 "java/lang/String" ∧ Fld Z h a1 "java/lang/String" "coder" "B" (.int (0 : Int32))
set_option maxRecDepth 65536 in
set_option maxHeartbeats 40000000 in
theorem rm3_0 (l : Launch) (Z : State) (a0 : Array Value) (hw : ∀ d ∈ tables_1, d.before a0 Z = true) (ws : List Jvm.Cond) (a1 : Addr) (a2 : Addr) (u_value_a1 : Value) (u_coder_a1 : Value) (h0 : Heap) (n0 : Nat) (Z0 : n0 ≤ h0.size) (hh0 : Jvm.Lit.constHeld Z "java/lang/String" 7) (hcw : Jvm.Lit.compactW.before a0 Z = true) (E_a1 : Exa Z h0 a1 "java/lang/String") (F_value_a1 : Fld Z h0 a1 "java/lang/String" "value" "[B" u_value_a1) (F_coder_a1 : Fld Z h0 a1 "java/lang/String" "coder" "B" u_coder_a1) (hO : Old Z n0 h0) (g_a1 : n0 ≤ a1) :
    MetFree l (⟨"java/lang/String", "<init>", "([CIILjava/lang/Void;)V"⟩ : MethodName) (head1 (Jvm.Cond.code (⟨"java/lang/String", "<init>", "([CIILjava/lang/Void;)V"⟩ : MethodName) jdk_42_method_149_code 6 none :: ws) ({ frames := 1, cells := 2, slots := 4, locals := 12 } : Room)) (fun a U => a = #[(.ref a1), (.ref a2), (.int (0 : Int32)), (.int (0 : Int32)), .null] ∧ Z.Warmed39 U.vm ∧ U.heap = h0 ∧ IB Z U.vm []) (fun _ _ _ _ _ => True) (fun _ U o U' => ∃ v L, o = .returned v ∧ Q3_0 Z a1 a2 u_value_a1 u_coder_a1 h0 n0 v U'.heap L ∧ ReturnedEndW U o U' L ({ frames := 1, cells := 2, slots := 4, locals := 12 } : Room).cells ({ frames := 1, cells := 2, slots := 4, locals := 12 } : Room).slots) := by
  refine MetFree.of_bodySF (plainFor_of_name pn_1) hisR ?_
  intro p e s m args below meth c s₁ Bd hml0 hP hK
  obtain ⟨rfl, hZ, hh, hI⟩ := hP
  have hx := Bd.exec
  have hby := Bd.bytes
  have hml : c.maxLocals = 6 := hml0
  have hown : s.vm.findClass "java/lang/String" = some m.cls := findClass_of_methodNamed Bd.named
  have hnm := (name_of_methodNamed Bd.named Bd.method).1
  have X0 : Stand p l e ({ frames := 1, cells := 2, slots := 4, locals := 12 } : Room) s m #[(.ref a1), (.ref a2), (.int (0 : Int32)), (.int (0 : Int32)), .null] below meth c s₁ [] 0 0 := Stand.of_body Bd
  have e0 : s₁.heap = h0 := by rw [← hh, Bd.state]; rfl
  have N0 := Fr.nil n0
  refine Go.doneW (Go.step (fun t k => castTop (ef_3_0 m a1 a2) k) ?_)
  have hS0 : s.Since s.vm h0.size := (State.WarmedH.refl s).since _
  have hk0 : h0.size ≤ h0.size := Nat.le_refl _
  replace X0 : Stand p l e ({ frames := 1, cells := 2, slots := 4, locals := 12 } : Room) (s.setVm s.vm) m #[(.ref a1), (.ref a2), (.int (0 : Int32)), (.int (0 : Int32)), .null] below meth c s₁ [] 0 0 := X0
  replace hZ : Z.Warmed39 (s.setVm s.vm).vm := hZ
  replace hown : (s.setVm s.vm).vm.findClass "java/lang/String" = some m.cls := hown
  have KK0 : Keep h0 h0 [a1] := Keep.refl _ _
  show Go p e below _ (s₁.setTop (mkF m 0 #[.val (.ref a1), .val (.ref a2), .val (.int (0 : Int32)), .val (.int (0 : Int32)), .val .null, .unset] []))
  refine Go.step (fun t k => XS.aloadN X0.here hx rfl (hb hby d3_0) rfl rfl k) ?_
  show Go p e below _ (s₁.setTop (mkF m 1 #[.val (.ref a1), .val (.ref a2), .val (.int (0 : Int32)), .val (.int (0 : Int32)), .val .null, .unset] [(.ref a1)]))
  obtain ⟨T6, X6, e6, st6⟩ := initO X0 hx hZ hown (hw _ (List.mem_of_getElem? (i := 15) rfl)) (hw _ (List.mem_of_getElem? (i := 16) rfl)) (hw _ (List.mem_of_getElem? (i := 17) rfl)) e0 (g := (mkF m 1 #[.val (.ref a1), .val (.ref a2), .val (.int (0 : Int32)), .val (.int (0 : Int32)), .val .null, .unset] [(.ref a1)])) rfl (by rw [hml]; rfl) rfl (hb hby d3_1) (by decide) (W := 0) (by show 2 * 0 + _ ≤ _; exact Nat.le_of_eq rfl) (by decide)
  refine Go.step st6 ?_
  show Go p e below _ (T6.setTop (mkF m 4 #[.val (.ref a1), .val (.ref a2), .val (.int (0 : Int32)), .val (.int (0 : Int32)), .val .null, .unset] []))
  refine Go.step (fun t k => XS.iloadN X6.here hx rfl (hb hby d3_4) rfl k) ?_
  show Go p e below _ (T6.setTop (mkF m 5 #[.val (.ref a1), .val (.ref a2), .val (.int (0 : Int32)), .val (.int (0 : Int32)), .val .null, .unset] [(.int (0 : Int32))]))
  refine Go.step (fun t k => XS.ifNo X6.here hx rfl (hb hby d3_5) rfl ((if0 _ _).trans (teq (rfl : (0 : Int32) = (0 : Int32))).2) k) ?_
  show Go p e below _ (T6.setTop (mkF m 8 #[.val (.ref a1), .val (.ref a2), .val (.int (0 : Int32)), .val (.int (0 : Int32)), .val .null, .unset] []))
  have hkp : ∀ (b : Addr) (cl : Cell), Z.heap[b]? = some cl → s.heap[b]? = some cl := fun b cl q => by rw [hh]; exact hO.2.2 b cl q
  show Go p e below _ (T6.setTop (mkF m 8 #[.val (.ref a1), .val (.ref a2), .val (.int (0 : Int32)), .val (.int (0 : Int32)), .val .null, .unset] []))
  refine Go.step (fun t k => XS.aloadN X6.here hx rfl (hb hby d3_8) rfl rfl k) ?_
  show Go p e below _ (T6.setTop (mkF m 9 #[.val (.ref a1), .val (.ref a2), .val (.int (0 : Int32)), .val (.int (0 : Int32)), .val .null, .unset] [(.ref a1)]))
  obtain ⟨lt7, T7, h7, k7, lb7, lk7, X7, e7, E7, hS7, hq7, hZ, hown, LE7, LC7, LV7, -, -, -, -, Li7, st7⟩ := ldcSVL X6 hx hZ hown (hw _ (List.mem_of_getElem? (i := 78) rfl)) (wS hw) e6 hS0 hk0 (Fr.nil _) hkp hI (by simp) hh0 hcw (vs := []) (z := (0 : Int32)) ⟨by decide, rfl⟩ (by decide) (by decide) (g := (mkF m 9 #[.val (.ref a1), .val (.ref a2), .val (.int (0 : Int32)), .val (.int (0 : Int32)), .val .null, .unset] [(.ref a1)])) rfl (hb hby d3_9) (n := 0) (by decide) (by decide) (by decide) (by decide)
  refine Go.step st7 ?_
  have E_a1_7 := E_a1.ext E7
  have F_value_a1_7 := F_value_a1.ext E7
  have F_coder_a1_7 := F_coder_a1.ext E7
  have O7 := hO.ext E7
  have Z7 := Nat.le_trans Z0 E7.1
  have KK7 : Keep h0 h7 [a1] := KK0.ext E7
  clear E_a1 F_value_a1 F_coder_a1 hO Z0 KK0 E7
  replace X7 : Stand p l e ({ frames := 1, cells := 2, slots := 4, locals := 12 } : Room) (s.setVm T7.vm) m #[(.ref a1), (.ref a2), (.int (0 : Int32)), (.int (0 : Int32)), .null] below meth c T7 _ 2 4 := X7
  show Go p e below _ (T7.setTop (mkF m 11 #[.val (.ref a1), .val (.ref a2), .val (.int (0 : Int32)), .val (.int (0 : Int32)), .val .null, .unset] [(.ref lt7), (.ref a1)]))
  obtain ⟨T8, X8, e8, st8⟩ := getF X7 hx hZ hown (host := "") (Or.inl (hw _ (List.mem_of_getElem? (i := 32) rfl))) Via.refl e7 LV7 (g := (mkF m 11 #[.val (.ref a1), .val (.ref a2), .val (.int (0 : Int32)), .val (.int (0 : Int32)), .val .null, .unset] [(.ref lt7), (.ref a1)])) rfl rfl (hb hby d3_11)
  refine Go.step st8 ?_
  show Go p e below _ (T8.setTop (mkF m 14 #[.val (.ref a1), .val (.ref a2), .val (.int (0 : Int32)), .val (.int (0 : Int32)), .val .null, .unset] [(.ref lb7), (.ref a1)]))
  obtain ⟨T9, h9, X9, e9, W9, st9⟩ := putF X8 hx hZ hown (host := "") (Or.inl (hw _ (List.mem_of_getElem? (i := 32) rfl))) Via.refl e8 F_value_a1_7 E_a1_7 (Or.inr ⟨(hw _ (List.mem_of_getElem? (i := 33) rfl)), rfl, hnm⟩) (hw _ (List.mem_of_getElem? (i := 6) rfl)) (ty := (.array .byte)) (by decide) rfl rfl (g := (mkF m 14 #[.val (.ref a1), .val (.ref a2), .val (.int (0 : Int32)), .val (.int (0 : Int32)), .val .null, .unset] [(.ref lb7), (.ref a1)])) rfl rfl (hb hby d3_14)
  refine Go.step st9 ?_
  have N9 := Fr.snoc X9 N0 g_a1
  have E_a1_9 := E_a1_7.wr W9
  have F_coder_a1_9 := F_coder_a1_7.other W9 (Or.inr (slot_ne (Or.inr (hw _ (List.mem_of_getElem? (i := 31) rfl))) (Or.inr (hw _ (List.mem_of_getElem? (i := 33) rfl))) (by decide) (t := .byte) (t' := (.array .byte)) (by decide) (by decide)))
  have E_lt7_9 := LE7.wr W9
  have Fcoder_lt7_9 := LC7.other W9 (Or.inr (slot_ne (Or.inr (hw _ (List.mem_of_getElem? (i := 31) rfl))) (Or.inr (hw _ (List.mem_of_getElem? (i := 33) rfl))) (by decide) (t := .byte) (t' := (.array .byte)) (by decide) (by decide)))
  have O9 := O7.wr W9 g_a1
  have Z9 := Nat.le_trans Z7 (Keep.of_wr W9).1
  have hk9 := Nat.le_trans hq7 (Keep.of_wr W9).1
  have KK9 : Keep h0 h9 [a1] := KK7.wr W9 (Or.inl (by simp))
  clear E_a1_7 F_coder_a1_7 LE7 LC7 O7 Z7 KK7
  have F_value_a1_9 := F_value_a1_7.same W9
  show Go p e below _ (T9.setTop (mkF m 17 #[.val (.ref a1), .val (.ref a2), .val (.int (0 : Int32)), .val (.int (0 : Int32)), .val .null, .unset] []))
  refine Go.step (fun t k => XS.aloadN X9.here hx rfl (hb hby d3_17) rfl rfl k) ?_
  show Go p e below _ (T9.setTop (mkF m 18 #[.val (.ref a1), .val (.ref a2), .val (.int (0 : Int32)), .val (.int (0 : Int32)), .val .null, .unset] [(.ref a1)]))
  refine Go.step (ldcAgain X9 hx hZ hown (hw _ (List.mem_of_getElem? (i := 78) rfl)) Li7 (g := (mkF m 18 #[.val (.ref a1), .val (.ref a2), .val (.int (0 : Int32)), .val (.int (0 : Int32)), .val .null, .unset] [(.ref a1)])) rfl (hb hby d3_18)) ?_
  show Go p e below _ (T9.setTop (mkF m 20 #[.val (.ref a1), .val (.ref a2), .val (.int (0 : Int32)), .val (.int (0 : Int32)), .val .null, .unset] [(.ref lt7), (.ref a1)]))
  obtain ⟨T11, X11, e11, st11⟩ := getF X9 hx hZ hown (host := "") (Or.inl (hw _ (List.mem_of_getElem? (i := 30) rfl))) Via.refl e9 Fcoder_lt7_9 (g := (mkF m 20 #[.val (.ref a1), .val (.ref a2), .val (.int (0 : Int32)), .val (.int (0 : Int32)), .val .null, .unset] [(.ref lt7), (.ref a1)])) rfl rfl (hb hby d3_20)
  refine Go.step st11 ?_
  show Go p e below _ (T11.setTop (mkF m 23 #[.val (.ref a1), .val (.ref a2), .val (.int (0 : Int32)), .val (.int (0 : Int32)), .val .null, .unset] [(.int (0 : Int32)), (.ref a1)]))
  obtain ⟨T12, h12, X12, e12, W12, st12⟩ := putFN X11 hx hZ hown (hw _ (List.mem_of_getElem? (i := 30) rfl)) Via.refl e11 F_coder_a1_9 E_a1_9 (Or.inr ⟨(hw _ (List.mem_of_getElem? (i := 31) rfl)), rfl, hnm⟩) (hw _ (List.mem_of_getElem? (i := 6) rfl)) (ty := .byte) (v' := .int (0 : Int32)) (by decide) rfl (by decide) (g := (mkF m 23 #[.val (.ref a1), .val (.ref a2), .val (.int (0 : Int32)), .val (.int (0 : Int32)), .val .null, .unset] [(.int (0 : Int32)), (.ref a1)])) rfl rfl (hb hby d3_23)
  refine Go.step st12 ?_
  have N12 := Fr.snoc X12 N9 g_a1
  have E_a1_12 := E_a1_9.wr W12
  have F_value_a1_12 := F_value_a1_9.other W12 (Or.inr (slot_ne (Or.inr (hw _ (List.mem_of_getElem? (i := 33) rfl))) (Or.inr (hw _ (List.mem_of_getElem? (i := 31) rfl))) (by decide) (t := (.array .byte)) (t' := .byte) (by decide) (by decide)))
  have E_lt7_12 := E_lt7_9.wr W12
  have O12 := O9.wr W12 g_a1
  have Z12 := Nat.le_trans Z9 (Keep.of_wr W12).1
  have hk12 := Nat.le_trans hk9 (Keep.of_wr W12).1
  have KK12 : Keep h0 h12 [a1] := KK9.wr W12 (Or.inl (by simp))
  clear E_a1_9 F_value_a1_9 E_lt7_9 O9 Z9 KK9
  have F_coder_a1_12 := F_coder_a1_9.same W12
  show Go p e below _ (T12.setTop (mkF m 26 #[.val (.ref a1), .val (.ref a2), .val (.int (0 : Int32)), .val (.int (0 : Int32)), .val .null, .unset] []))
  refine retWV X12 hx hS7 (by rw [e12]; exact hk12) Bd.notSynchronized Bd.returns (hb hby d3_26) ?_ (by decide) (by decide)
  show Q3_0 Z a1 a2 u_value_a1 u_coder_a1 h0 n0 _ T12.heap _
  rw [e12]
  exact ⟨rfl, N12, KK12, E_a1_12, F_coder_a1_12⟩
theorem ef_2_0 (m : MethodId) (a1 : Addr) (a2 : Addr) : entryFrame m #[(.ref a1), (.ref a2)] 2 = mkF m 0 #[.val (.ref a1), .val (.ref a2)] [] := by first | (simp [entryFrame, mkF, argsToLocals, Value.category]; done) | rfl
def Q2_0 (Z : State) (a1 : Addr) (a2 : Addr) (g_a2f : Nat → Int32) (u_value_a1 : Value) (u_coder_a1 : Value) (h0 : Heap) (n0 : Nat) (v : Option Value) (h : Heap) (L : List Loc) : Prop := v = none ∧ Fr n0 L ∧ Keep h0 h [a1] ∧ Exa Z h a1 "java/lang/String" ∧ Fld Z h a1 "java/lang/String" "coder" "B" (.int (0 : Int32))
set_option maxRecDepth 65536 in
set_option maxHeartbeats 40000000 in
theorem rm2_0 (l : Launch) (Z : State) (a0 : Array Value) (hw : ∀ d ∈ tables_1, d.before a0 Z = true) (ws : List Jvm.Cond) (a1 : Addr) (a2 : Addr) (g_a2f : Nat → Int32) (u_value_a1 : Value) (u_coder_a1 : Value) (h0 : Heap) (n0 : Nat) (Z0 : n0 ≤ h0.size) (hh0 : Jvm.Lit.constHeld Z "java/lang/String" 7) (hcw : Jvm.Lit.compactW.before a0 Z = true) (A_a2 : Ary Z h0 a2 .char 0 (fun i => .int (g_a2f i))) (E_a1 : Exa Z h0 a1 "java/lang/String") (F_value_a1 : Fld Z h0 a1 "java/lang/String" "value" "[B" u_value_a1) (F_coder_a1 : Fld Z h0 a1 "java/lang/String" "coder" "B" u_coder_a1) (hO : Old Z n0 h0) (g_a1 : n0 ≤ a1) (hne_a2_a1 : a2 ≠ a1) :
    MetFree l (⟨"java/lang/String", "<init>", "([C)V"⟩ : MethodName) (head1 (Jvm.Cond.code (⟨"java/lang/String", "<init>", "([C)V"⟩ : MethodName) jdk_42_method_3_code 2 none :: ws) ({ frames := 2, cells := 2, slots := 4, locals := 29 } : Room)) (fun a U => a = #[(.ref a1), (.ref a2)] ∧ Z.Warmed39 U.vm ∧ U.heap = h0 ∧ IB Z U.vm []) (fun _ _ _ _ _ => True) (fun _ U o U' => ∃ v L, o = .returned v ∧ Q2_0 Z a1 a2 g_a2f u_value_a1 u_coder_a1 h0 n0 v U'.heap L ∧ ReturnedEndW U o U' L ({ frames := 2, cells := 2, slots := 4, locals := 29 } : Room).cells ({ frames := 2, cells := 2, slots := 4, locals := 29 } : Room).slots) := by
  refine MetFree.of_bodySF (plainFor_of_name pn_1) hisR ?_
  intro p e s m args below meth c s₁ Bd hml0 hP hK
  obtain ⟨rfl, hZ, hh, hI⟩ := hP
  have hx := Bd.exec
  have hby := Bd.bytes
  have hml : c.maxLocals = 2 := hml0
  have hown : s.vm.findClass "java/lang/String" = some m.cls := findClass_of_methodNamed Bd.named
  have hnm := (name_of_methodNamed Bd.named Bd.method).1
  have X0 : Stand p l e ({ frames := 2, cells := 2, slots := 4, locals := 29 } : Room) s m #[(.ref a1), (.ref a2)] below meth c s₁ [] 0 0 := Stand.of_body Bd
  have e0 : s₁.heap = h0 := by rw [← hh, Bd.state]; rfl
  have N0 := Fr.nil n0
  refine Go.doneW (Go.step (fun t k => castTop (ef_2_0 m a1 a2) k) ?_)
  have hS0 : s.Since s.vm h0.size := (State.WarmedH.refl s).since _
  have hk0 : h0.size ≤ h0.size := Nat.le_refl _
  replace X0 : Stand p l e ({ frames := 2, cells := 2, slots := 4, locals := 29 } : Room) (s.setVm s.vm) m #[(.ref a1), (.ref a2)] below meth c s₁ [] 0 0 := X0
  replace hZ : Z.Warmed39 (s.setVm s.vm).vm := hZ
  replace hown : (s.setVm s.vm).vm.findClass "java/lang/String" = some m.cls := hown
  have KK0 : Keep h0 h0 [a1] := Keep.refl _ _
  show Go p e below _ (s₁.setTop (mkF m 0 #[.val (.ref a1), .val (.ref a2)] []))
  refine Go.step (fun t k => XS.aloadN X0.here hx rfl (hb hby d2_0) rfl rfl k) ?_
  show Go p e below _ (s₁.setTop (mkF m 1 #[.val (.ref a1), .val (.ref a2)] [(.ref a1)]))
  refine Go.step (fun t k => XS.aloadN X0.here hx rfl (hb hby d2_1) rfl rfl k) ?_
  show Go p e below _ (s₁.setTop (mkF m 2 #[.val (.ref a1), .val (.ref a2)] [(.ref a2), (.ref a1)]))
  refine Go.step (fun t k => XS.iconst X0.here hx rfl (hb hby d2_2)  k) ?_
  show Go p e below _ (s₁.setTop (mkF m 3 #[.val (.ref a1), .val (.ref a2)] [(.int (0 : Int32)), (.ref a2), (.ref a1)]))
  refine Go.step (fun t k => XS.aloadN X0.here hx rfl (hb hby d2_3) rfl rfl k) ?_
  show Go p e below _ (s₁.setTop (mkF m 4 #[.val (.ref a1), .val (.ref a2)] [(.ref a2), (.int (0 : Int32)), (.ref a2), (.ref a1)]))
  refine Go.step (lenA X0 hx hZ e0 A_a2 (g := (mkF m 4 #[.val (.ref a1), .val (.ref a2)] [(.ref a2), (.int (0 : Int32)), (.ref a2), (.ref a1)])) rfl rfl (hb hby d2_4)) ?_
  show Go p e below _ (s₁.setTop (mkF m 5 #[.val (.ref a1), .val (.ref a2)] [(.int (0 : Int32)), (.int (0 : Int32)), (.ref a2), (.ref a1)]))
  refine Go.step (fun t k => XS.aconstNull X0.here hx rfl (hb hby d2_5)  k) ?_
  show Go p e below _ (s₁.setTop (mkF m 6 #[.val (.ref a1), .val (.ref a2)] [.null, (.int (0 : Int32)), (.int (0 : Int32)), (.ref a2), (.ref a1)]))
  obtain ⟨_, _, ⟨T3, L3, k3, n3⟩, -, X3, sn3, gr3, ⟨Lc3, hQ3, l3, y3, z3⟩, st3⟩ := X0.specialBackS hx (y := (⟨"java/lang/String", "<init>", "([CIILjava/lang/Void;)V"⟩ : MethodName)) rfl hown (mvT hZ (hw _ (List.mem_of_getElem? (i := 11) rfl))) (mvT hZ (hw _ (List.mem_of_getElem? (i := 12) rfl))) (mvT hZ (hw _ (List.mem_of_getElem? (i := 14) rfl))) (by decide) (backOfSI (W := 0) (rm3_0 l Z a0 hw [] a1 a2 u_value_a1 u_coder_a1 h0 n0 Z0 (hh0 : Jvm.Lit.constHeld Z "java/lang/String" 7) (hcw : Jvm.Lit.compactW.before a0 Z = true) E_a1 F_value_a1 F_coder_a1 hO g_a1) hZ hI (hw _ (List.mem_of_getElem? (i := 14) rfl)) (hw _ (List.mem_of_getElem? (i := 7) rfl)) (by decide) (by decide)) (g := (mkF m 6 #[.val (.ref a1), .val (.ref a2)] [.null, (.int (0 : Int32)), (.int (0 : Int32)), (.ref a2), (.ref a1)])) rfl (by rw [hml]; rfl) (Steps.refl _) (a := a1) (argsL := [(.ref a2), (.int (0 : Int32)), (.int (0 : Int32)), .null]) (rest := []) (lenOf pd_3 rfl) rfl (by show 2 * 0 + _ ≤ _; exact Nat.le_of_eq rfl) (hb hby d2_6) (fun _ _ => ⟨rfl, e0, (by decide : 0 + 2 ≤ _), (by decide : 0 + 4 ≤ _)⟩)
  dsimp only [Pt.U, Pt.locs, Pt.cells, Pt.slots] at X3 l3 y3 z3 st3 hQ3 sn3 gr3
  replace y3 : k3 = 2 := y3
  replace z3 : n3 = 4 := z3
  subst y3 z3
  obtain ⟨rfl, N3q, K3, Q3_0, Q3_1⟩ := hQ3
  have N3 : Fr n0 L3 := Eq.mpr (congrArg (Fr n0) l3) (Fr.app N0 N3q)
  have A_a2_3 := A_a2.keep K3 (ninS hne_a2_a1 nin0)
  have E_a1_3 := E_a1.keep K3
  have O3 := hO.keep K3 (allS g_a1 all0)
  have Z3 := Nat.le_trans Z0 K3.1
  have KK3 : Keep h0 T3.heap [a1] := KK0.trans K3 (allS (Or.inl (by simp)) all0)
  clear A_a2 E_a1 hO Z0 KK0 K3
  obtain ⟨X3, hS3, hZ, hown⟩ := rebS hS0 (by rw [e0]; exact hk0) X3 sn3 gr3 hZ hown
  have hk3 : T3.heap.size ≤ T3.heap.size := Nat.le_refl _
  refine Go.trans st3 ?_
  show Go p e below _ (T3.setTop (mkF m 9 #[.val (.ref a1), .val (.ref a2)] []))
  refine retWV X3 hx hS3 hk3 Bd.notSynchronized Bd.returns (hb hby d2_9) ?_ (by decide) (by decide)
  show Q2_0 Z a1 a2 g_a2f u_value_a1 u_coder_a1 h0 n0 _ T3.heap _
  exact ⟨rfl, N3, KK3, Q3_0, Q3_1⟩
theorem d1_0 : decode method_2_code 0 = .ok (.iload_n 1, 1) := by decide +kernel
theorem d1_1 : decode method_2_code 1 = .ok (.sipush 255, 3) := by decide +kernel
theorem d1_4 : decode method_2_code 4 = .ok (.iand, 1) := by decide +kernel
theorem d1_5 : decode method_2_code 5 = .ok (.i2c, 1) := by decide +kernel
theorem d1_6 : decode method_2_code 6 = .ok (.istore 4, 2) := by decide +kernel
theorem d1_8 : decode method_2_code 8 = .ok (.iload_n 2, 1) := by decide +kernel
theorem d1_9 : decode method_2_code 9 = .ok (.sipush 255, 3) := by decide +kernel
theorem d1_12 : decode method_2_code 12 = .ok (.iand, 1) := by decide +kernel
theorem d1_13 : decode method_2_code 13 = .ok (.i2c, 1) := by decide +kernel
theorem d1_14 : decode method_2_code 14 = .ok (.istore 5, 2) := by decide +kernel
theorem d1_16 : decode method_2_code 16 = .ok (.iload_n 3, 1) := by decide +kernel
theorem d1_17 : decode method_2_code 17 = .ok (.sipush 255, 3) := by decide +kernel
theorem d1_20 : decode method_2_code 20 = .ok (.iand, 1) := by decide +kernel
theorem d1_21 : decode method_2_code 21 = .ok (.i2c, 1) := by decide +kernel
theorem d1_22 : decode method_2_code 22 = .ok (.istore 6, 2) := by decide +kernel
theorem d1_24 : decode method_2_code 24 = .ok (.iload_n 0, 1) := by decide +kernel
theorem d1_25 : decode method_2_code 25 = .ok (.ifCond .ne 14, 3) := by decide +kernel
theorem d1_28 : decode method_2_code 28 = .ok (.new 7, 3) := by decide +kernel
theorem d1_31 : decode method_2_code 31 = .ok (.dup, 1) := by decide +kernel
theorem d1_32 : decode method_2_code 32 = .ok (.iconst 0, 1) := by decide +kernel
theorem d1_33 : decode method_2_code 33 = .ok (.newarray .char, 2) := by decide +kernel
theorem d1_35 : decode method_2_code 35 = .ok (.invokespecial 9, 3) := by decide +kernel
theorem pd_4 : parseMethodDescriptor "([C)V" = some ⟨[(.array .char)], none⟩ := by decide +kernel
theorem d1_38 : decode method_2_code 38 = .ok (.areturn, 1) := by decide +kernel
theorem ef_1_0 (m : MethodId) (p2 : Int32) (p3 : Int32) (p4 : Int32) : entryFrame m #[(.int (0 : Int32)), (.int p2), (.int p3), (.int p4)] 8 = mkF m 0 #[.val (.int (0 : Int32)), .val (.int p2), .val (.int p3), .val (.int p4), .unset, .unset, .unset, .unset] [] := by first | (simp [entryFrame, mkF, argsToLocals, Value.category]; done) | rfl
theorem pn_2 : plainName "com/example/menshen/menshen/core/SubjectUserPinLaw" = true := by first | (simp [plainName, overriddenIn]; done) | decide +kernel
def Q1_0 (Z : State) (p2 : Int32) (p3 : Int32) (p4 : Int32) (h0 : Heap) (n0 : Nat) (v : Option Value) (h : Heap) (L : List Loc) : Prop := ∃ (b8 : Addr), v = some (.ref b8) ∧ Fr n0 L ∧ Keep h0 h [] ∧ h0.size ≤ b8 ∧ Exa Z h b8 "java/lang/String" ∧ Fld Z h b8 "java/lang/String" "coder" "B" (.int (0 : Int32))
set_option maxRecDepth 65536 in
set_option maxHeartbeats 40000000 in
theorem rm1_0 (l : Launch) (Z : State) (a0 : Array Value) (hw : ∀ d ∈ tables_1, d.before a0 Z = true) (ws : List Jvm.Cond) (p2 : Int32) (p3 : Int32) (p4 : Int32) (h0 : Heap) (n0 : Nat) (Z0 : n0 ≤ h0.size) (hh0 : Jvm.Lit.constHeld Z "java/lang/String" 7) (hcw : Jvm.Lit.compactW.before a0 Z = true) (hO : Old Z n0 h0) :
    MetFree l (⟨"com/example/menshen/menshen/core/SubjectUserPinLaw", "draw", "(IIII)Ljava/lang/String;"⟩ : MethodName) (head1 (Jvm.Cond.code (⟨"com/example/menshen/menshen/core/SubjectUserPinLaw", "draw", "(IIII)Ljava/lang/String;"⟩ : MethodName) method_2_code 8 (some (.object "java/lang/String")) :: ws) ({ frames := 3, cells := 4, slots := 8, locals := 43 } : Room)) (fun a U => a = #[(.int (0 : Int32)), (.int p2), (.int p3), (.int p4)] ∧ Z.Warmed39 U.vm ∧ U.heap = h0 ∧ IB Z U.vm []) (fun _ _ _ _ _ => True) (fun _ U o U' => ∃ v L, o = .returned v ∧ Q1_0 Z p2 p3 p4 h0 n0 v U'.heap L ∧ ReturnedEndW U o U' L ({ frames := 3, cells := 4, slots := 8, locals := 43 } : Room).cells ({ frames := 3, cells := 4, slots := 8, locals := 43 } : Room).slots) := by
  refine MetFree.of_bodySF (plainFor_of_name pn_2) hisR ?_
  intro p e s m args below meth c s₁ Bd hml0 hP hK
  obtain ⟨rfl, hZ, hh, hI⟩ := hP
  have hx := Bd.exec
  have hby := Bd.bytes
  have hml : c.maxLocals = 8 := hml0
  have hown : s.vm.findClass "com/example/menshen/menshen/core/SubjectUserPinLaw" = some m.cls := findClass_of_methodNamed Bd.named
  have hnm := (name_of_methodNamed Bd.named Bd.method).1
  have X0 : Stand p l e ({ frames := 3, cells := 4, slots := 8, locals := 43 } : Room) s m #[(.int (0 : Int32)), (.int p2), (.int p3), (.int p4)] below meth c s₁ [] 0 0 := Stand.of_body Bd
  have e0 : s₁.heap = h0 := by rw [← hh, Bd.state]; rfl
  have N0 := Fr.nil n0
  refine Go.doneW (Go.step (fun t k => castTop (ef_1_0 m p2 p3 p4) k) ?_)
  have hS0 : s.Since s.vm h0.size := (State.WarmedH.refl s).since _
  have hk0 : h0.size ≤ h0.size := Nat.le_refl _
  replace X0 : Stand p l e ({ frames := 3, cells := 4, slots := 8, locals := 43 } : Room) (s.setVm s.vm) m #[(.int (0 : Int32)), (.int p2), (.int p3), (.int p4)] below meth c s₁ [] 0 0 := X0
  replace hZ : Z.Warmed39 (s.setVm s.vm).vm := hZ
  replace hown : (s.setVm s.vm).vm.findClass "com/example/menshen/menshen/core/SubjectUserPinLaw" = some m.cls := hown
  have KK0 : Keep h0 h0 [] := Keep.refl _ _
  show Go p e below _ (s₁.setTop (mkF m 0 #[.val (.int (0 : Int32)), .val (.int p2), .val (.int p3), .val (.int p4), .unset, .unset, .unset, .unset] []))
  refine Go.step (fun t k => XS.iloadN X0.here hx rfl (hb hby d1_0) rfl k) ?_
  show Go p e below _ (s₁.setTop (mkF m 1 #[.val (.int (0 : Int32)), .val (.int p2), .val (.int p3), .val (.int p4), .unset, .unset, .unset, .unset] [(.int p2)]))
  refine Go.step (fun t k => XS.sipush X0.here hx rfl (hb hby d1_1)  k) ?_
  show Go p e below _ (s₁.setTop (mkF m 4 #[.val (.int (0 : Int32)), .val (.int p2), .val (.int p3), .val (.int p4), .unset, .unset, .unset, .unset] [(.int (255 : Int32)), (.int p2)]))
  refine Go.step (fun t k => XS.iand X0.here hx rfl (hb hby d1_4) rfl k) ?_
  show Go p e below _ (s₁.setTop (mkF m 5 #[.val (.int (0 : Int32)), .val (.int p2), .val (.int p3), .val (.int p4), .unset, .unset, .unset, .unset] [(.int (p2 &&& (255 : Int32)))]))
  refine Go.step (fun t k => XS.i2c X0.here hx rfl (hb hby d1_5) rfl k) ?_
  show Go p e below _ (s₁.setTop (mkF m 6 #[.val (.int (0 : Int32)), .val (.int p2), .val (.int p3), .val (.int p4), .unset, .unset, .unset, .unset] [(.int ((p2 &&& (255 : Int32)).toUInt32.toUInt16.toUInt32.toInt32))]))
  refine nameIt (fun zz : Int32 => Go p e below _ (s₁.setTop (mkF m 6 #[.val (.int (0 : Int32)), .val (.int p2), .val (.int p3), .val (.int p4), .unset, .unset, .unset, .unset] [(.int zz)]))) ((p2 &&& (255 : Int32)).toUInt32.toUInt16.toUInt32.toInt32) ?_
  intro v5 hv5
  show Go p e below _ (s₁.setTop (mkF m 6 #[.val (.int (0 : Int32)), .val (.int p2), .val (.int p3), .val (.int p4), .unset, .unset, .unset, .unset] [(.int v5)]))
  refine Go.step (fun t k => XS.istore X0.here hx rfl (hb hby d1_6) rfl (l' := #[.val (.int (0 : Int32)), .val (.int p2), .val (.int p3), .val (.int p4), .val (.int v5), .unset, .unset, .unset]) rfl k) ?_
  show Go p e below _ (s₁.setTop (mkF m 8 #[.val (.int (0 : Int32)), .val (.int p2), .val (.int p3), .val (.int p4), .val (.int v5), .unset, .unset, .unset] []))
  refine Go.step (fun t k => XS.iloadN X0.here hx rfl (hb hby d1_8) rfl k) ?_
  show Go p e below _ (s₁.setTop (mkF m 9 #[.val (.int (0 : Int32)), .val (.int p2), .val (.int p3), .val (.int p4), .val (.int v5), .unset, .unset, .unset] [(.int p3)]))
  refine Go.step (fun t k => XS.sipush X0.here hx rfl (hb hby d1_9)  k) ?_
  show Go p e below _ (s₁.setTop (mkF m 12 #[.val (.int (0 : Int32)), .val (.int p2), .val (.int p3), .val (.int p4), .val (.int v5), .unset, .unset, .unset] [(.int (255 : Int32)), (.int p3)]))
  refine Go.step (fun t k => XS.iand X0.here hx rfl (hb hby d1_12) rfl k) ?_
  show Go p e below _ (s₁.setTop (mkF m 13 #[.val (.int (0 : Int32)), .val (.int p2), .val (.int p3), .val (.int p4), .val (.int v5), .unset, .unset, .unset] [(.int (p3 &&& (255 : Int32)))]))
  refine Go.step (fun t k => XS.i2c X0.here hx rfl (hb hby d1_13) rfl k) ?_
  show Go p e below _ (s₁.setTop (mkF m 14 #[.val (.int (0 : Int32)), .val (.int p2), .val (.int p3), .val (.int p4), .val (.int v5), .unset, .unset, .unset] [(.int ((p3 &&& (255 : Int32)).toUInt32.toUInt16.toUInt32.toInt32))]))
  refine nameIt (fun zz : Int32 => Go p e below _ (s₁.setTop (mkF m 14 #[.val (.int (0 : Int32)), .val (.int p2), .val (.int p3), .val (.int p4), .val (.int v5), .unset, .unset, .unset] [(.int zz)]))) ((p3 &&& (255 : Int32)).toUInt32.toUInt16.toUInt32.toInt32) ?_
  intro v6 hv6
  show Go p e below _ (s₁.setTop (mkF m 14 #[.val (.int (0 : Int32)), .val (.int p2), .val (.int p3), .val (.int p4), .val (.int v5), .unset, .unset, .unset] [(.int v6)]))
  refine Go.step (fun t k => XS.istore X0.here hx rfl (hb hby d1_14) rfl (l' := #[.val (.int (0 : Int32)), .val (.int p2), .val (.int p3), .val (.int p4), .val (.int v5), .val (.int v6), .unset, .unset]) rfl k) ?_
  show Go p e below _ (s₁.setTop (mkF m 16 #[.val (.int (0 : Int32)), .val (.int p2), .val (.int p3), .val (.int p4), .val (.int v5), .val (.int v6), .unset, .unset] []))
  refine Go.step (fun t k => XS.iloadN X0.here hx rfl (hb hby d1_16) rfl k) ?_
  show Go p e below _ (s₁.setTop (mkF m 17 #[.val (.int (0 : Int32)), .val (.int p2), .val (.int p3), .val (.int p4), .val (.int v5), .val (.int v6), .unset, .unset] [(.int p4)]))
  refine Go.step (fun t k => XS.sipush X0.here hx rfl (hb hby d1_17)  k) ?_
  show Go p e below _ (s₁.setTop (mkF m 20 #[.val (.int (0 : Int32)), .val (.int p2), .val (.int p3), .val (.int p4), .val (.int v5), .val (.int v6), .unset, .unset] [(.int (255 : Int32)), (.int p4)]))
  refine Go.step (fun t k => XS.iand X0.here hx rfl (hb hby d1_20) rfl k) ?_
  show Go p e below _ (s₁.setTop (mkF m 21 #[.val (.int (0 : Int32)), .val (.int p2), .val (.int p3), .val (.int p4), .val (.int v5), .val (.int v6), .unset, .unset] [(.int (p4 &&& (255 : Int32)))]))
  refine Go.step (fun t k => XS.i2c X0.here hx rfl (hb hby d1_21) rfl k) ?_
  show Go p e below _ (s₁.setTop (mkF m 22 #[.val (.int (0 : Int32)), .val (.int p2), .val (.int p3), .val (.int p4), .val (.int v5), .val (.int v6), .unset, .unset] [(.int ((p4 &&& (255 : Int32)).toUInt32.toUInt16.toUInt32.toInt32))]))
  refine nameIt (fun zz : Int32 => Go p e below _ (s₁.setTop (mkF m 22 #[.val (.int (0 : Int32)), .val (.int p2), .val (.int p3), .val (.int p4), .val (.int v5), .val (.int v6), .unset, .unset] [(.int zz)]))) ((p4 &&& (255 : Int32)).toUInt32.toUInt16.toUInt32.toInt32) ?_
  intro v7 hv7
  show Go p e below _ (s₁.setTop (mkF m 22 #[.val (.int (0 : Int32)), .val (.int p2), .val (.int p3), .val (.int p4), .val (.int v5), .val (.int v6), .unset, .unset] [(.int v7)]))
  refine Go.step (fun t k => XS.istore X0.here hx rfl (hb hby d1_22) rfl (l' := #[.val (.int (0 : Int32)), .val (.int p2), .val (.int p3), .val (.int p4), .val (.int v5), .val (.int v6), .val (.int v7), .unset]) rfl k) ?_
  show Go p e below _ (s₁.setTop (mkF m 24 #[.val (.int (0 : Int32)), .val (.int p2), .val (.int p3), .val (.int p4), .val (.int v5), .val (.int v6), .val (.int v7), .unset] []))
  have cv5 : Ch v5 := by rw [hv5]; exact ch_mk _
  have cv6 : Ch v6 := by rw [hv6]; exact ch_mk _
  have cv7 : Ch v7 := by rw [hv7]; exact ch_mk _
  show Go p e below _ (s₁.setTop (mkF m 24 #[.val (.int (0 : Int32)), .val (.int p2), .val (.int p3), .val (.int p4), .val (.int v5), .val (.int v6), .val (.int v7), .unset] []))
  refine Go.step (fun t k => XS.iloadN X0.here hx rfl (hb hby d1_24) rfl k) ?_
  show Go p e below _ (s₁.setTop (mkF m 25 #[.val (.int (0 : Int32)), .val (.int p2), .val (.int p3), .val (.int p4), .val (.int v5), .val (.int v6), .val (.int v7), .unset] [(.int (0 : Int32))]))
  refine Go.step (fun t k => XS.ifNo X0.here hx rfl (hb hby d1_25) rfl ((if0 _ _).trans (teq (rfl : (0 : Int32) = (0 : Int32))).2) k) ?_
  show Go p e below _ (s₁.setTop (mkF m 28 #[.val (.int (0 : Int32)), .val (.int p2), .val (.int p3), .val (.int p4), .val (.int v5), .val (.int v6), .val (.int v7), .unset] []))
  obtain ⟨T8, h8, X8, e8, E8, A8, D8, -, st8⟩ := newO X0 hx hZ hown (hw _ (List.mem_of_getElem? (i := 5) rfl)) (hw _ (List.mem_of_getElem? (i := 6) rfl)) (hw _ (List.mem_of_getElem? (i := 7) rfl)) e0 (g := (mkF m 28 #[.val (.int (0 : Int32)), .val (.int p2), .val (.int p3), .val (.int p4), .val (.int v5), .val (.int v6), .val (.int v7), .unset] [])) rfl (hb hby d1_28) (by decide) (by decide)
  obtain ⟨b8, g8⟩ : ∃ z, z = h0.size := ⟨_, rfl⟩
  rw [← g8] at A8 D8 st8
  have g_b8 : n0 ≤ b8 := Nat.le_trans Z0 (Nat.le_of_eq g8.symm)
  have sz_b8 : h0.size ≤ b8 := Nat.le_trans KK0.1 (Nat.le_of_eq g8.symm)
  refine Go.step st8 ?_
  have O8 := hO.ext E8
  have Z8 := Nat.le_trans Z0 E8.1
  have hk8 := Nat.le_trans hk0 E8.1
  have KK8 : Keep h0 h8 [] := KK0.ext E8
  clear hO Z0 KK0 E8
  have F_coder_b8 : Fld Z h8 b8 "java/lang/String" "coder" "B" (.int (0 : Int32)) := D8 (Or.inr (hw _ (List.mem_of_getElem? (i := 31) rfl))) (ty := .byte) (by decide)
  have F_value_b8 : Fld Z h8 b8 "java/lang/String" "value" "[B" .null := D8 (Or.inr (hw _ (List.mem_of_getElem? (i := 33) rfl))) (ty := (.array .byte)) (by decide)
  replace X8 : Stand p l e ({ frames := 3, cells := 4, slots := 8, locals := 43 } : Room) (s.setVm s.vm) m #[(.int (0 : Int32)), (.int p2), (.int p3), (.int p4)] below meth c T8 _ 1 4 := X8
  show Go p e below _ (T8.setTop (mkF m 31 #[.val (.int (0 : Int32)), .val (.int p2), .val (.int p3), .val (.int p4), .val (.int v5), .val (.int v6), .val (.int v7), .unset] [(.ref b8)]))
  refine Go.step (fun t k => XS.dup X8.here hx rfl (hb hby d1_31) rfl rfl k) ?_
  show Go p e below _ (T8.setTop (mkF m 32 #[.val (.int (0 : Int32)), .val (.int p2), .val (.int p3), .val (.int p4), .val (.int v5), .val (.int v6), .val (.int v7), .unset] [(.ref b8), (.ref b8)]))
  refine Go.step (fun t k => XS.iconst X8.here hx rfl (hb hby d1_32)  k) ?_
  show Go p e below _ (T8.setTop (mkF m 33 #[.val (.int (0 : Int32)), .val (.int p2), .val (.int p3), .val (.int p4), .val (.int v5), .val (.int v6), .val (.int v7), .unset] [(.int (0 : Int32)), (.ref b8), (.ref b8)]))
  obtain ⟨T9, h9, k9, X9, e9, E9, A9, st9⟩ := newP X8 hx hZ (hw _ (List.mem_of_getElem? (i := 4) rfl)) e8 (g := (mkF m 33 #[.val (.int (0 : Int32)), .val (.int p2), .val (.int p3), .val (.int p4), .val (.int v5), .val (.int v6), .val (.int v7), .unset] [(.int (0 : Int32)), (.ref b8), (.ref b8)])) rfl (hb hby d1_33) rfl (by decide) (cap := 0) (by decide) (by decide) (by decide) (by decide)
  obtain ⟨b9, g9⟩ : ∃ z, z = h8.size := ⟨_, rfl⟩
  rw [← g9] at A9 st9
  have g_b9 : n0 ≤ b9 := Nat.le_trans Z8 (Nat.le_of_eq g9.symm)
  have sz_b9 : h0.size ≤ b9 := Nat.le_trans KK8.1 (Nat.le_of_eq g9.symm)
  have ne_b8_b9 : b8 ≠ b9 := Nat.ne_of_lt (Nat.lt_of_lt_of_le A8.lt (Nat.le_of_eq g9.symm))
  refine Go.step st9 ?_
  have E_b8_9 := A8.ext E9
  have F_coder_b8_9 := F_coder_b8.ext E9
  have F_value_b8_9 := F_value_b8.ext E9
  have O9 := O8.ext E9
  have Z9 := Nat.le_trans Z8 E9.1
  have hk9 := Nat.le_trans hk8 E9.1
  have KK9 : Keep h0 h9 [] := KK8.ext E9
  clear A8 F_coder_b8 F_value_b8 O8 Z8 KK8 E9
  have A_b9_9 : Ary Z h9 b9 .char 0 (fun i => .int ((fun _ => (0 : Int32)) i)) := Ary.mk A9 (by decide) (by decide)
  replace X9 : Stand p l e ({ frames := 3, cells := 4, slots := 8, locals := 43 } : Room) (s.setVm s.vm) m #[(.int (0 : Int32)), (.int p2), (.int p3), (.int p4)] below meth c T9 _ 2 4 := X9
  show Go p e below _ (T9.setTop (mkF m 35 #[.val (.int (0 : Int32)), .val (.int p2), .val (.int p3), .val (.int p4), .val (.int v5), .val (.int v6), .val (.int v7), .unset] [(.ref b9), (.ref b8), (.ref b8)]))
  obtain ⟨_, _, ⟨T10, L10, k10, n10⟩, -, X10, sn10, gr10, ⟨Lc10, hQ10, l10, y10, z10⟩, st10⟩ := X9.specialBackS hx (y := (⟨"java/lang/String", "<init>", "([C)V"⟩ : MethodName)) rfl hown (mvT hZ (hw _ (List.mem_of_getElem? (i := 8) rfl))) (mvT hZ (hw _ (List.mem_of_getElem? (i := 9) rfl))) (mvT hZ (hw _ (List.mem_of_getElem? (i := 10) rfl))) (by decide) (backOfSI (W := 1) (rm2_0 l Z a0 hw [] b8 b9 (fun _ => (0 : Int32)) .null (.int (0 : Int32)) h9 n0 Z9 (hh0 : Jvm.Lit.constHeld Z "java/lang/String" 7) (hcw : Jvm.Lit.compactW.before a0 Z = true) A_b9_9 E_b8_9 F_value_b8_9 F_coder_b8_9 O9 g_b8 (Ne.symm ne_b8_b9)) hZ hI (hw _ (List.mem_of_getElem? (i := 10) rfl)) (hw _ (List.mem_of_getElem? (i := 7) rfl)) (by decide) (by decide)) (g := (mkF m 35 #[.val (.int (0 : Int32)), .val (.int p2), .val (.int p3), .val (.int p4), .val (.int v5), .val (.int v6), .val (.int v7), .unset] [(.ref b9), (.ref b8), (.ref b8)])) rfl (by rw [hml]; rfl) (Steps.refl _) (a := b8) (argsL := [(.ref b9)]) (rest := [(.ref b8)]) (lenOf pd_4 rfl) rfl (by show 2 * 0 + _ ≤ _; exact Nat.le_of_eq rfl) (hb hby d1_35) (fun _ _ => ⟨rfl, e9, (by decide : 2 + 2 ≤ _), (by decide : 4 + 4 ≤ _)⟩)
  dsimp only [Pt.U, Pt.locs, Pt.cells, Pt.slots] at X10 l10 y10 z10 st10 hQ10 sn10 gr10
  replace y10 : k10 = 4 := y10
  replace z10 : n10 = 8 := z10
  subst y10 z10
  obtain ⟨rfl, N10q, K10, Q10_0, Q10_1⟩ := hQ10
  have N10 : Fr n0 L10 := Eq.mpr (congrArg (Fr n0) l10) (Fr.app N0 N10q)
  have E_b8_10 := E_b8_9.keep K10
  have A_b9_10 := A_b9_9.keep K10 (ninS (Ne.symm ne_b8_b9) nin0)
  have O10 := O9.keep K10 (allS g_b8 all0)
  have Z10 := Nat.le_trans Z9 K10.1
  have KK10 : Keep h0 T10.heap [] := KK9.trans K10 (allS (Or.inr sz_b8) all0)
  clear E_b8_9 A_b9_9 O9 Z9 KK9 K10
  obtain ⟨X10, hS10, hZ, hown⟩ := rebS hS0 (by rw [e9]; exact hk9) X10 sn10 gr10 hZ hown
  have hk10 : T10.heap.size ≤ T10.heap.size := Nat.le_refl _
  refine Go.trans st10 ?_
  show Go p e below _ (T10.setTop (mkF m 38 #[.val (.int (0 : Int32)), .val (.int p2), .val (.int p3), .val (.int p4), .val (.int v5), .val (.int v6), .val (.int v7), .unset] [(.ref b8)]))
  subst hv7
  subst hv6
  subst hv5
  refine retWR X10 hx hS10 hk10 Bd.notSynchronized Bd.returns rfl rfl (hb hby d1_38) ?_ (by decide) (by decide)
  show Q1_0 Z p2 p3 p4 h0 n0 _ T10.heap _
  exact ⟨b8, rfl, N10, KK10, sz_b8, Q10_0, Q10_1⟩
theorem d1_39 : decode method_2_code 39 = .ok (.iload_n 0, 1) := by decide +kernel
theorem d1_40 : decode method_2_code 40 = .ok (.iconst 1, 1) := by decide +kernel
theorem d1_41 : decode method_2_code 41 = .ok (.if_icmp .ne 24, 3) := by decide +kernel
theorem d1_44 : decode method_2_code 44 = .ok (.iconst 1, 1) := by decide +kernel
theorem d1_45 : decode method_2_code 45 = .ok (.newarray .char, 2) := by decide +kernel
theorem d1_47 : decode method_2_code 47 = .ok (.astore 7, 2) := by decide +kernel
theorem d1_49 : decode method_2_code 49 = .ok (.aload 7, 2) := by decide +kernel
theorem d1_51 : decode method_2_code 51 = .ok (.iconst 0, 1) := by decide +kernel
theorem d1_52 : decode method_2_code 52 = .ok (.iload 4, 2) := by decide +kernel
theorem d1_54 : decode method_2_code 54 = .ok (.castore, 1) := by decide +kernel
theorem d1_55 : decode method_2_code 55 = .ok (.new 7, 3) := by decide +kernel
theorem d1_58 : decode method_2_code 58 = .ok (.dup, 1) := by decide +kernel
theorem d1_59 : decode method_2_code 59 = .ok (.aload 7, 2) := by decide +kernel
theorem d1_61 : decode method_2_code 61 = .ok (.invokespecial 9, 3) := by decide +kernel
theorem d1_64 : decode method_2_code 64 = .ok (.areturn, 1) := by decide +kernel
theorem ef_1_1 (m : MethodId) (p2 : Int32) (p3 : Int32) (p4 : Int32) : entryFrame m #[(.int (1 : Int32)), (.int p2), (.int p3), (.int p4)] 8 = mkF m 0 #[.val (.int (1 : Int32)), .val (.int p2), .val (.int p3), .val (.int p4), .unset, .unset, .unset, .unset] [] := by first | (simp [entryFrame, mkF, argsToLocals, Value.category]; done) | rfl
def Q1_1 (Z : State) (p2 : Int32) (p3 : Int32) (p4 : Int32) (wC : Int32) (h0 : Heap) (n0 : Nat) (v : Option Value) (h : Heap) (L : List Loc) : Prop := ∃ (b10 : Addr), v = some (.ref b10) ∧ Fr n0 L ∧ Keep h0 h [] ∧ h0.size ≤ b10 ∧ Exa Z h b10 "java/lang/String" ∧ Fld Z h b10 "java/lang/String" "coder" "B" (.int (0 : Int32))
set_option maxRecDepth 65536 in
set_option maxHeartbeats 40000000 in
theorem rm1_1 (l : Launch) (Z : State) (a0 : Array Value) (hw : ∀ d ∈ tables_1, d.before a0 Z = true) (ws : List Jvm.Cond) (p2 : Int32) (p3 : Int32) (p4 : Int32) (wC : Int32) (h0 : Heap) (n0 : Nat) (Z0 : n0 ≤ h0.size) (hO : Old Z n0 h0) (hC : ¬ (wC = (0 : Int32))) (S_COMPACT_STRINGS : Sta Z Z.heap "java/lang/String" "COMPACT_STRINGS" "Z" (.int wC)) :
    MetFree l (⟨"com/example/menshen/menshen/core/SubjectUserPinLaw", "draw", "(IIII)Ljava/lang/String;"⟩ : MethodName) (head1 (Jvm.Cond.code (⟨"com/example/menshen/menshen/core/SubjectUserPinLaw", "draw", "(IIII)Ljava/lang/String;"⟩ : MethodName) method_2_code 8 (some (.object "java/lang/String")) :: ws) ({ frames := 4, cells := 3, slots := 6, locals := 66 } : Room)) (fun a U => a = #[(.int (1 : Int32)), (.int p2), (.int p3), (.int p4)] ∧ Z.Warmed39 U.vm ∧ U.heap = h0) (fun _ _ _ _ _ => True) (fun _ U o U' => ∃ v L, o = .returned v ∧ Q1_1 Z p2 p3 p4 wC h0 n0 v U'.heap L ∧ FrameEnd U o U' L ({ frames := 4, cells := 3, slots := 6, locals := 66 } : Room).cells ({ frames := 4, cells := 3, slots := 6, locals := 66 } : Room).slots) := by
  refine MetFree.of_bodySF (plainFor_of_name pn_2) hisR ?_
  intro p e s m args below meth c s₁ Bd hml0 hP hK
  obtain ⟨rfl, hZ, hh⟩ := hP
  have hx := Bd.exec
  have hby := Bd.bytes
  have hml : c.maxLocals = 8 := hml0
  have hown : s.vm.findClass "com/example/menshen/menshen/core/SubjectUserPinLaw" = some m.cls := findClass_of_methodNamed Bd.named
  have hnm := (name_of_methodNamed Bd.named Bd.method).1
  have X0 : Stand p l e ({ frames := 4, cells := 3, slots := 6, locals := 66 } : Room) s m #[(.int (1 : Int32)), (.int p2), (.int p3), (.int p4)] below meth c s₁ [] 0 0 := Stand.of_body Bd
  have e0 : s₁.heap = h0 := by rw [← hh, Bd.state]; rfl
  have N0 := Fr.nil n0
  refine Go.done (Go.step (fun t k => castTop (ef_1_1 m p2 p3 p4) k) ?_)
  have KK0 : Keep h0 h0 [] := Keep.refl _ _
  show Go p e below _ (s₁.setTop (mkF m 0 #[.val (.int (1 : Int32)), .val (.int p2), .val (.int p3), .val (.int p4), .unset, .unset, .unset, .unset] []))
  refine Go.step (fun t k => XS.iloadN X0.here hx rfl (hb hby d1_0) rfl k) ?_
  show Go p e below _ (s₁.setTop (mkF m 1 #[.val (.int (1 : Int32)), .val (.int p2), .val (.int p3), .val (.int p4), .unset, .unset, .unset, .unset] [(.int p2)]))
  refine Go.step (fun t k => XS.sipush X0.here hx rfl (hb hby d1_1)  k) ?_
  show Go p e below _ (s₁.setTop (mkF m 4 #[.val (.int (1 : Int32)), .val (.int p2), .val (.int p3), .val (.int p4), .unset, .unset, .unset, .unset] [(.int (255 : Int32)), (.int p2)]))
  refine Go.step (fun t k => XS.iand X0.here hx rfl (hb hby d1_4) rfl k) ?_
  show Go p e below _ (s₁.setTop (mkF m 5 #[.val (.int (1 : Int32)), .val (.int p2), .val (.int p3), .val (.int p4), .unset, .unset, .unset, .unset] [(.int (p2 &&& (255 : Int32)))]))
  refine Go.step (fun t k => XS.i2c X0.here hx rfl (hb hby d1_5) rfl k) ?_
  show Go p e below _ (s₁.setTop (mkF m 6 #[.val (.int (1 : Int32)), .val (.int p2), .val (.int p3), .val (.int p4), .unset, .unset, .unset, .unset] [(.int ((p2 &&& (255 : Int32)).toUInt32.toUInt16.toUInt32.toInt32))]))
  refine nameIt (fun zz : Int32 => Go p e below _ (s₁.setTop (mkF m 6 #[.val (.int (1 : Int32)), .val (.int p2), .val (.int p3), .val (.int p4), .unset, .unset, .unset, .unset] [(.int zz)]))) ((p2 &&& (255 : Int32)).toUInt32.toUInt16.toUInt32.toInt32) ?_
  intro v5 hv5
  show Go p e below _ (s₁.setTop (mkF m 6 #[.val (.int (1 : Int32)), .val (.int p2), .val (.int p3), .val (.int p4), .unset, .unset, .unset, .unset] [(.int v5)]))
  refine Go.step (fun t k => XS.istore X0.here hx rfl (hb hby d1_6) rfl (l' := #[.val (.int (1 : Int32)), .val (.int p2), .val (.int p3), .val (.int p4), .val (.int v5), .unset, .unset, .unset]) rfl k) ?_
  show Go p e below _ (s₁.setTop (mkF m 8 #[.val (.int (1 : Int32)), .val (.int p2), .val (.int p3), .val (.int p4), .val (.int v5), .unset, .unset, .unset] []))
  refine Go.step (fun t k => XS.iloadN X0.here hx rfl (hb hby d1_8) rfl k) ?_
  show Go p e below _ (s₁.setTop (mkF m 9 #[.val (.int (1 : Int32)), .val (.int p2), .val (.int p3), .val (.int p4), .val (.int v5), .unset, .unset, .unset] [(.int p3)]))
  refine Go.step (fun t k => XS.sipush X0.here hx rfl (hb hby d1_9)  k) ?_
  show Go p e below _ (s₁.setTop (mkF m 12 #[.val (.int (1 : Int32)), .val (.int p2), .val (.int p3), .val (.int p4), .val (.int v5), .unset, .unset, .unset] [(.int (255 : Int32)), (.int p3)]))
  refine Go.step (fun t k => XS.iand X0.here hx rfl (hb hby d1_12) rfl k) ?_
  show Go p e below _ (s₁.setTop (mkF m 13 #[.val (.int (1 : Int32)), .val (.int p2), .val (.int p3), .val (.int p4), .val (.int v5), .unset, .unset, .unset] [(.int (p3 &&& (255 : Int32)))]))
  refine Go.step (fun t k => XS.i2c X0.here hx rfl (hb hby d1_13) rfl k) ?_
  show Go p e below _ (s₁.setTop (mkF m 14 #[.val (.int (1 : Int32)), .val (.int p2), .val (.int p3), .val (.int p4), .val (.int v5), .unset, .unset, .unset] [(.int ((p3 &&& (255 : Int32)).toUInt32.toUInt16.toUInt32.toInt32))]))
  refine nameIt (fun zz : Int32 => Go p e below _ (s₁.setTop (mkF m 14 #[.val (.int (1 : Int32)), .val (.int p2), .val (.int p3), .val (.int p4), .val (.int v5), .unset, .unset, .unset] [(.int zz)]))) ((p3 &&& (255 : Int32)).toUInt32.toUInt16.toUInt32.toInt32) ?_
  intro v6 hv6
  show Go p e below _ (s₁.setTop (mkF m 14 #[.val (.int (1 : Int32)), .val (.int p2), .val (.int p3), .val (.int p4), .val (.int v5), .unset, .unset, .unset] [(.int v6)]))
  refine Go.step (fun t k => XS.istore X0.here hx rfl (hb hby d1_14) rfl (l' := #[.val (.int (1 : Int32)), .val (.int p2), .val (.int p3), .val (.int p4), .val (.int v5), .val (.int v6), .unset, .unset]) rfl k) ?_
  show Go p e below _ (s₁.setTop (mkF m 16 #[.val (.int (1 : Int32)), .val (.int p2), .val (.int p3), .val (.int p4), .val (.int v5), .val (.int v6), .unset, .unset] []))
  refine Go.step (fun t k => XS.iloadN X0.here hx rfl (hb hby d1_16) rfl k) ?_
  show Go p e below _ (s₁.setTop (mkF m 17 #[.val (.int (1 : Int32)), .val (.int p2), .val (.int p3), .val (.int p4), .val (.int v5), .val (.int v6), .unset, .unset] [(.int p4)]))
  refine Go.step (fun t k => XS.sipush X0.here hx rfl (hb hby d1_17)  k) ?_
  show Go p e below _ (s₁.setTop (mkF m 20 #[.val (.int (1 : Int32)), .val (.int p2), .val (.int p3), .val (.int p4), .val (.int v5), .val (.int v6), .unset, .unset] [(.int (255 : Int32)), (.int p4)]))
  refine Go.step (fun t k => XS.iand X0.here hx rfl (hb hby d1_20) rfl k) ?_
  show Go p e below _ (s₁.setTop (mkF m 21 #[.val (.int (1 : Int32)), .val (.int p2), .val (.int p3), .val (.int p4), .val (.int v5), .val (.int v6), .unset, .unset] [(.int (p4 &&& (255 : Int32)))]))
  refine Go.step (fun t k => XS.i2c X0.here hx rfl (hb hby d1_21) rfl k) ?_
  show Go p e below _ (s₁.setTop (mkF m 22 #[.val (.int (1 : Int32)), .val (.int p2), .val (.int p3), .val (.int p4), .val (.int v5), .val (.int v6), .unset, .unset] [(.int ((p4 &&& (255 : Int32)).toUInt32.toUInt16.toUInt32.toInt32))]))
  refine nameIt (fun zz : Int32 => Go p e below _ (s₁.setTop (mkF m 22 #[.val (.int (1 : Int32)), .val (.int p2), .val (.int p3), .val (.int p4), .val (.int v5), .val (.int v6), .unset, .unset] [(.int zz)]))) ((p4 &&& (255 : Int32)).toUInt32.toUInt16.toUInt32.toInt32) ?_
  intro v7 hv7
  show Go p e below _ (s₁.setTop (mkF m 22 #[.val (.int (1 : Int32)), .val (.int p2), .val (.int p3), .val (.int p4), .val (.int v5), .val (.int v6), .unset, .unset] [(.int v7)]))
  refine Go.step (fun t k => XS.istore X0.here hx rfl (hb hby d1_22) rfl (l' := #[.val (.int (1 : Int32)), .val (.int p2), .val (.int p3), .val (.int p4), .val (.int v5), .val (.int v6), .val (.int v7), .unset]) rfl k) ?_
  show Go p e below _ (s₁.setTop (mkF m 24 #[.val (.int (1 : Int32)), .val (.int p2), .val (.int p3), .val (.int p4), .val (.int v5), .val (.int v6), .val (.int v7), .unset] []))
  have cv5 : Ch v5 := by rw [hv5]; exact ch_mk _
  have cv6 : Ch v6 := by rw [hv6]; exact ch_mk _
  have cv7 : Ch v7 := by rw [hv7]; exact ch_mk _
  show Go p e below _ (s₁.setTop (mkF m 24 #[.val (.int (1 : Int32)), .val (.int p2), .val (.int p3), .val (.int p4), .val (.int v5), .val (.int v6), .val (.int v7), .unset] []))
  refine Go.step (fun t k => XS.iloadN X0.here hx rfl (hb hby d1_24) rfl k) ?_
  show Go p e below _ (s₁.setTop (mkF m 25 #[.val (.int (1 : Int32)), .val (.int p2), .val (.int p3), .val (.int p4), .val (.int v5), .val (.int v6), .val (.int v7), .unset] [(.int (1 : Int32))]))
  refine Go.step (fun t k => XS.ifYes X0.here hx rfl (pc0 := 25) (pc' := 39) rfl (hb hby d1_25) rfl ((if0 _ _).trans (feq (by decide : ¬ ((1 : Int32) = (0 : Int32)))).2) (by decide) (by decide) k) ?_
  show Go p e below _ (s₁.setTop (mkF m 39 #[.val (.int (1 : Int32)), .val (.int p2), .val (.int p3), .val (.int p4), .val (.int v5), .val (.int v6), .val (.int v7), .unset] []))
  refine Go.step (fun t k => XS.iloadN X0.here hx rfl (hb hby d1_39) rfl k) ?_
  show Go p e below _ (s₁.setTop (mkF m 40 #[.val (.int (1 : Int32)), .val (.int p2), .val (.int p3), .val (.int p4), .val (.int v5), .val (.int v6), .val (.int v7), .unset] [(.int (1 : Int32))]))
  refine Go.step (fun t k => XS.iconst X0.here hx rfl (hb hby d1_40)  k) ?_
  show Go p e below _ (s₁.setTop (mkF m 41 #[.val (.int (1 : Int32)), .val (.int p2), .val (.int p3), .val (.int p4), .val (.int v5), .val (.int v6), .val (.int v7), .unset] [(.int (1 : Int32)), (.int (1 : Int32))]))
  refine Go.step (fun t k => XS.icmpNo X0.here hx rfl (hb hby d1_41) rfl (teq (rfl : (1 : Int32) = (1 : Int32))).2 k) ?_
  show Go p e below _ (s₁.setTop (mkF m 44 #[.val (.int (1 : Int32)), .val (.int p2), .val (.int p3), .val (.int p4), .val (.int v5), .val (.int v6), .val (.int v7), .unset] []))
  refine Go.step (fun t k => XS.iconst X0.here hx rfl (hb hby d1_44)  k) ?_
  show Go p e below _ (s₁.setTop (mkF m 45 #[.val (.int (1 : Int32)), .val (.int p2), .val (.int p3), .val (.int p4), .val (.int v5), .val (.int v6), .val (.int v7), .unset] [(.int (1 : Int32))]))
  obtain ⟨T8, h8, k8, X8, e8, E8, A8, st8⟩ := newP X0 hx hZ (hw _ (List.mem_of_getElem? (i := 4) rfl)) e0 (g := (mkF m 45 #[.val (.int (1 : Int32)), .val (.int p2), .val (.int p3), .val (.int p4), .val (.int v5), .val (.int v6), .val (.int v7), .unset] [(.int (1 : Int32))])) rfl (hb hby d1_45) rfl (by decide) (cap := 1) (by decide) (by decide) (by decide) (by decide)
  obtain ⟨b8, g8⟩ : ∃ z, z = h0.size := ⟨_, rfl⟩
  rw [← g8] at A8 st8
  have g_b8 : n0 ≤ b8 := Nat.le_trans Z0 (Nat.le_of_eq g8.symm)
  have sz_b8 : h0.size ≤ b8 := Nat.le_trans KK0.1 (Nat.le_of_eq g8.symm)
  refine Go.step st8 ?_
  have O8 := hO.ext E8
  have Z8 := Nat.le_trans Z0 E8.1
  have KK8 : Keep h0 h8 [] := KK0.ext E8
  clear hO Z0 KK0 E8
  have A_b8_8 : Ary Z h8 b8 .char 1 (fun i => .int ((fun _ => (0 : Int32)) i)) := Ary.mk A8 (by decide) (by decide)
  replace X8 : Stand p l e ({ frames := 4, cells := 3, slots := 6, locals := 66 } : Room) s m #[(.int (1 : Int32)), (.int p2), (.int p3), (.int p4)] below meth c T8 _ 1 1 := X8
  show Go p e below _ (T8.setTop (mkF m 47 #[.val (.int (1 : Int32)), .val (.int p2), .val (.int p3), .val (.int p4), .val (.int v5), .val (.int v6), .val (.int v7), .unset] [(.ref b8)]))
  refine Go.step (fun t k => XS.astore X8.here hx rfl (hb hby d1_47) rfl rfl (l' := #[.val (.int (1 : Int32)), .val (.int p2), .val (.int p3), .val (.int p4), .val (.int v5), .val (.int v6), .val (.int v7), .val (.ref b8)]) rfl k) ?_
  show Go p e below _ (T8.setTop (mkF m 49 #[.val (.int (1 : Int32)), .val (.int p2), .val (.int p3), .val (.int p4), .val (.int v5), .val (.int v6), .val (.int v7), .val (.ref b8)] []))
  refine Go.step (fun t k => XS.aload X8.here hx rfl (hb hby d1_49) rfl rfl k) ?_
  show Go p e below _ (T8.setTop (mkF m 51 #[.val (.int (1 : Int32)), .val (.int p2), .val (.int p3), .val (.int p4), .val (.int v5), .val (.int v6), .val (.int v7), .val (.ref b8)] [(.ref b8)]))
  refine Go.step (fun t k => XS.iconst X8.here hx rfl (hb hby d1_51)  k) ?_
  show Go p e below _ (T8.setTop (mkF m 52 #[.val (.int (1 : Int32)), .val (.int p2), .val (.int p3), .val (.int p4), .val (.int v5), .val (.int v6), .val (.int v7), .val (.ref b8)] [(.int (0 : Int32)), (.ref b8)]))
  refine Go.step (fun t k => XS.iload X8.here hx rfl (hb hby d1_52) rfl k) ?_
  show Go p e below _ (T8.setTop (mkF m 54 #[.val (.int (1 : Int32)), .val (.int p2), .val (.int p3), .val (.int p4), .val (.int v5), .val (.int v6), .val (.int v7), .val (.ref b8)] [(.int v5), (.int (0 : Int32)), (.ref b8)]))
  obtain ⟨cl9, Ar9, in9, -⟩ := A_b8_8.hin (j := (0 : Int32)) (by decide) (by decide)
  obtain ⟨T9, h9, X9, e9, W9, st9⟩ := stC X8 hx hZ e8 Ar9 in9 (g := (mkF m 54 #[.val (.int (1 : Int32)), .val (.int p2), .val (.int p3), .val (.int p4), .val (.int v5), .val (.int v6), .val (.int v7), .val (.ref b8)] [(.int v5), (.int (0 : Int32)), (.ref b8)])) rfl rfl (hb hby d1_54)
  refine Go.step st9 ?_
  have N9 := Fr.snoc X9 N0 g_b8
  have O9 := O8.wr W9 g_b8
  have Z9 := Nat.le_trans Z8 (Keep.of_wr W9).1
  have KK9 : Keep h0 h9 [] := KK8.wr W9 (Or.inr sz_b8)
  clear O8 Z8 KK8
  have A_b8_9 : Ary Z h9 b8 .char 1 (fun i => .int ((upA (fun _ => (0 : Int32)) 0 (nar .char v5)) i)) := A_b8_8.setI W9 (by decide)
  show Go p e below _ (T9.setTop (mkF m 55 #[.val (.int (1 : Int32)), .val (.int p2), .val (.int p3), .val (.int p4), .val (.int v5), .val (.int v6), .val (.int v7), .val (.ref b8)] []))
  obtain ⟨T10, h10, X10, e10, E10, A10, D10, -, st10⟩ := newO X9 hx hZ hown (hw _ (List.mem_of_getElem? (i := 5) rfl)) (hw _ (List.mem_of_getElem? (i := 6) rfl)) (hw _ (List.mem_of_getElem? (i := 7) rfl)) e9 (g := (mkF m 55 #[.val (.int (1 : Int32)), .val (.int p2), .val (.int p3), .val (.int p4), .val (.int v5), .val (.int v6), .val (.int v7), .val (.ref b8)] [])) rfl (hb hby d1_55) (by decide) (by decide)
  obtain ⟨b10, g10⟩ : ∃ z, z = h9.size := ⟨_, rfl⟩
  rw [← g10] at A10 D10 st10
  have g_b10 : n0 ≤ b10 := Nat.le_trans Z9 (Nat.le_of_eq g10.symm)
  have sz_b10 : h0.size ≤ b10 := Nat.le_trans KK9.1 (Nat.le_of_eq g10.symm)
  have ne_b8_b10 : b8 ≠ b10 := Nat.ne_of_lt (Nat.lt_of_lt_of_le A_b8_9.lt (Nat.le_of_eq g10.symm))
  refine Go.step st10 ?_
  have A_b8_10 := A_b8_9.ext E10
  have O10 := O9.ext E10
  have Z10 := Nat.le_trans Z9 E10.1
  have KK10 : Keep h0 h10 [] := KK9.ext E10
  clear A_b8_9 O9 Z9 KK9 E10
  have F_coder_b10 : Fld Z h10 b10 "java/lang/String" "coder" "B" (.int (0 : Int32)) := D10 (Or.inr (hw _ (List.mem_of_getElem? (i := 31) rfl))) (ty := .byte) (by decide)
  have F_value_b10 : Fld Z h10 b10 "java/lang/String" "value" "[B" .null := D10 (Or.inr (hw _ (List.mem_of_getElem? (i := 33) rfl))) (ty := (.array .byte)) (by decide)
  replace X10 : Stand p l e ({ frames := 4, cells := 3, slots := 6, locals := 66 } : Room) s m #[(.int (1 : Int32)), (.int p2), (.int p3), (.int p4)] below meth c T10 _ 2 5 := X10
  show Go p e below _ (T10.setTop (mkF m 58 #[.val (.int (1 : Int32)), .val (.int p2), .val (.int p3), .val (.int p4), .val (.int v5), .val (.int v6), .val (.int v7), .val (.ref b8)] [(.ref b10)]))
  refine Go.step (fun t k => XS.dup X10.here hx rfl (hb hby d1_58) rfl rfl k) ?_
  show Go p e below _ (T10.setTop (mkF m 59 #[.val (.int (1 : Int32)), .val (.int p2), .val (.int p3), .val (.int p4), .val (.int v5), .val (.int v6), .val (.int v7), .val (.ref b8)] [(.ref b10), (.ref b10)]))
  refine Go.step (fun t k => XS.aload X10.here hx rfl (hb hby d1_59) rfl rfl k) ?_
  show Go p e below _ (T10.setTop (mkF m 61 #[.val (.int (1 : Int32)), .val (.int p2), .val (.int p3), .val (.int p4), .val (.int v5), .val (.int v6), .val (.int v7), .val (.ref b8)] [(.ref b8), (.ref b10), (.ref b10)]))
  obtain ⟨_, _, ⟨T11, L11, k11, n11⟩, -, X11, ⟨Lc11, hQ11, l11, y11, z11⟩, st11⟩ := X10.specialBack hx (y := (⟨"java/lang/String", "<init>", "([C)V"⟩ : MethodName)) rfl hown (mvT hZ (hw _ (List.mem_of_getElem? (i := 8) rfl))) (mvT hZ (hw _ (List.mem_of_getElem? (i := 9) rfl))) (mvT hZ (hw _ (List.mem_of_getElem? (i := 10) rfl))) (by decide) (backOf (W := 1) (rm2_1 l Z a0 hw [] b10 b8 (upA (fun _ => (0 : Int32)) 0 (nar .char v5)) (.int (0 : Int32)) .null wC h10 n0 Z10 A_b8_10 A10 F_coder_b10 F_value_b10 hC S_COMPACT_STRINGS O10 g_b10 (by simpa [upA, (cv5).1] using (cv5).2 : ¬ ((255 : Int32) < ((upA (fun _ => (0 : Int32)) 0 (nar .char v5)) 0))) ne_b8_b10) hZ (hw _ (List.mem_of_getElem? (i := 10) rfl)) (hw _ (List.mem_of_getElem? (i := 7) rfl)) (by decide) (by decide)) (g := (mkF m 61 #[.val (.int (1 : Int32)), .val (.int p2), .val (.int p3), .val (.int p4), .val (.int v5), .val (.int v6), .val (.int v7), .val (.ref b8)] [(.ref b8), (.ref b10), (.ref b10)])) rfl (by rw [hml]; rfl) (Steps.refl _) (a := b10) (argsL := [(.ref b8)]) (rest := [(.ref b10)]) (lenOf pd_4 rfl) rfl (by show 2 * 0 + _ ≤ _; exact Nat.le_of_eq rfl) (hb hby d1_61) (fun _ _ => ⟨rfl, e10, (by decide : 2 + 1 ≤ _), (by decide : 5 + 1 ≤ _)⟩)
  dsimp only [Pt.U, Pt.locs, Pt.cells, Pt.slots] at X11 l11 y11 z11 st11 hQ11
  replace y11 : k11 = 3 := y11
  replace z11 : n11 = 6 := z11
  subst y11 z11
  obtain ⟨rfl, N11q, K11, Q11_0, Q11_1⟩ := hQ11
  have N11 : Fr n0 L11 := Eq.mpr (congrArg (Fr n0) l11) (Fr.app N9 N11q)
  have A_b8_11 := A_b8_10.keep K11 (ninS ne_b8_b10 nin0)
  have E_b10_11 := A10.keep K11
  have O11 := O10.keep K11 (allS g_b10 all0)
  have Z11 := Nat.le_trans Z10 K11.1
  have KK11 : Keep h0 T11.heap [] := KK10.trans K11 (allS (Or.inr sz_b10) all0)
  clear A_b8_10 A10 O10 Z10 KK10 K11
  refine Go.trans st11 ?_
  show Go p e below _ (T11.setTop (mkF m 64 #[.val (.int (1 : Int32)), .val (.int p2), .val (.int p3), .val (.int p4), .val (.int v5), .val (.int v6), .val (.int v7), .val (.ref b8)] [(.ref b10)]))
  subst hv7
  subst hv6
  subst hv5
  refine retGR X11 hx Bd.notSynchronized Bd.returns rfl rfl (hb hby d1_64) ?_ (by decide) (by decide)
  show Q1_1 Z p2 p3 p4 wC h0 n0 _ T11.heap _
  exact ⟨b10, rfl, N11, KK11, sz_b10, Q11_0, Q11_1⟩
theorem d1_65 : decode method_2_code 65 = .ok (.iload_n 0, 1) := by decide +kernel
theorem d1_66 : decode method_2_code 66 = .ok (.iconst 2, 1) := by decide +kernel
theorem d1_67 : decode method_2_code 67 = .ok (.if_icmp .ne 30, 3) := by decide +kernel
theorem d1_70 : decode method_2_code 70 = .ok (.iconst 2, 1) := by decide +kernel
theorem d1_71 : decode method_2_code 71 = .ok (.newarray .char, 2) := by decide +kernel
theorem d1_73 : decode method_2_code 73 = .ok (.astore 7, 2) := by decide +kernel
theorem d1_75 : decode method_2_code 75 = .ok (.aload 7, 2) := by decide +kernel
theorem d1_77 : decode method_2_code 77 = .ok (.iconst 0, 1) := by decide +kernel
theorem d1_78 : decode method_2_code 78 = .ok (.iload 4, 2) := by decide +kernel
theorem d1_80 : decode method_2_code 80 = .ok (.castore, 1) := by decide +kernel
theorem d1_81 : decode method_2_code 81 = .ok (.aload 7, 2) := by decide +kernel
theorem d1_83 : decode method_2_code 83 = .ok (.iconst 1, 1) := by decide +kernel
theorem d1_84 : decode method_2_code 84 = .ok (.iload 5, 2) := by decide +kernel
theorem d1_86 : decode method_2_code 86 = .ok (.castore, 1) := by decide +kernel
theorem d1_87 : decode method_2_code 87 = .ok (.new 7, 3) := by decide +kernel
theorem d1_90 : decode method_2_code 90 = .ok (.dup, 1) := by decide +kernel
theorem d1_91 : decode method_2_code 91 = .ok (.aload 7, 2) := by decide +kernel
theorem d1_93 : decode method_2_code 93 = .ok (.invokespecial 9, 3) := by decide +kernel
theorem d1_96 : decode method_2_code 96 = .ok (.areturn, 1) := by decide +kernel
theorem ef_1_2 (m : MethodId) (p2 : Int32) (p3 : Int32) (p4 : Int32) : entryFrame m #[(.int (2 : Int32)), (.int p2), (.int p3), (.int p4)] 8 = mkF m 0 #[.val (.int (2 : Int32)), .val (.int p2), .val (.int p3), .val (.int p4), .unset, .unset, .unset, .unset] [] := by first | (simp [entryFrame, mkF, argsToLocals, Value.category]; done) | rfl
def Q1_2 (Z : State) (p2 : Int32) (p3 : Int32) (p4 : Int32) (wC : Int32) (h0 : Heap) (n0 : Nat) (v : Option Value) (h : Heap) (L : List Loc) : Prop := ∃ (b11 : Addr), v = some (.ref b11) ∧ Fr n0 L ∧ Keep h0 h [] ∧ h0.size ≤ b11 ∧ Exa Z h b11 "java/lang/String" ∧ Fld Z h b11 "java/lang/String" "coder" "B" (.int (0 : Int32))
set_option maxRecDepth 65536 in
set_option maxHeartbeats 40000000 in
theorem rm1_2 (l : Launch) (Z : State) (a0 : Array Value) (hw : ∀ d ∈ tables_1, d.before a0 Z = true) (ws : List Jvm.Cond) (p2 : Int32) (p3 : Int32) (p4 : Int32) (wC : Int32) (h0 : Heap) (n0 : Nat) (Z0 : n0 ≤ h0.size) (hO : Old Z n0 h0) (hC : ¬ (wC = (0 : Int32))) (S_COMPACT_STRINGS : Sta Z Z.heap "java/lang/String" "COMPACT_STRINGS" "Z" (.int wC)) :
    MetFree l (⟨"com/example/menshen/menshen/core/SubjectUserPinLaw", "draw", "(IIII)Ljava/lang/String;"⟩ : MethodName) (head1 (Jvm.Cond.code (⟨"com/example/menshen/menshen/core/SubjectUserPinLaw", "draw", "(IIII)Ljava/lang/String;"⟩ : MethodName) method_2_code 8 (some (.object "java/lang/String")) :: ws) ({ frames := 4, cells := 3, slots := 8, locals := 66 } : Room)) (fun a U => a = #[(.int (2 : Int32)), (.int p2), (.int p3), (.int p4)] ∧ Z.Warmed39 U.vm ∧ U.heap = h0) (fun _ _ _ _ _ => True) (fun _ U o U' => ∃ v L, o = .returned v ∧ Q1_2 Z p2 p3 p4 wC h0 n0 v U'.heap L ∧ FrameEnd U o U' L ({ frames := 4, cells := 3, slots := 8, locals := 66 } : Room).cells ({ frames := 4, cells := 3, slots := 8, locals := 66 } : Room).slots) := by
  refine MetFree.of_bodySF (plainFor_of_name pn_2) hisR ?_
  intro p e s m args below meth c s₁ Bd hml0 hP hK
  obtain ⟨rfl, hZ, hh⟩ := hP
  have hx := Bd.exec
  have hby := Bd.bytes
  have hml : c.maxLocals = 8 := hml0
  have hown : s.vm.findClass "com/example/menshen/menshen/core/SubjectUserPinLaw" = some m.cls := findClass_of_methodNamed Bd.named
  have hnm := (name_of_methodNamed Bd.named Bd.method).1
  have X0 : Stand p l e ({ frames := 4, cells := 3, slots := 8, locals := 66 } : Room) s m #[(.int (2 : Int32)), (.int p2), (.int p3), (.int p4)] below meth c s₁ [] 0 0 := Stand.of_body Bd
  have e0 : s₁.heap = h0 := by rw [← hh, Bd.state]; rfl
  have N0 := Fr.nil n0
  refine Go.done (Go.step (fun t k => castTop (ef_1_2 m p2 p3 p4) k) ?_)
  have KK0 : Keep h0 h0 [] := Keep.refl _ _
  show Go p e below _ (s₁.setTop (mkF m 0 #[.val (.int (2 : Int32)), .val (.int p2), .val (.int p3), .val (.int p4), .unset, .unset, .unset, .unset] []))
  refine Go.step (fun t k => XS.iloadN X0.here hx rfl (hb hby d1_0) rfl k) ?_
  show Go p e below _ (s₁.setTop (mkF m 1 #[.val (.int (2 : Int32)), .val (.int p2), .val (.int p3), .val (.int p4), .unset, .unset, .unset, .unset] [(.int p2)]))
  refine Go.step (fun t k => XS.sipush X0.here hx rfl (hb hby d1_1)  k) ?_
  show Go p e below _ (s₁.setTop (mkF m 4 #[.val (.int (2 : Int32)), .val (.int p2), .val (.int p3), .val (.int p4), .unset, .unset, .unset, .unset] [(.int (255 : Int32)), (.int p2)]))
  refine Go.step (fun t k => XS.iand X0.here hx rfl (hb hby d1_4) rfl k) ?_
  show Go p e below _ (s₁.setTop (mkF m 5 #[.val (.int (2 : Int32)), .val (.int p2), .val (.int p3), .val (.int p4), .unset, .unset, .unset, .unset] [(.int (p2 &&& (255 : Int32)))]))
  refine Go.step (fun t k => XS.i2c X0.here hx rfl (hb hby d1_5) rfl k) ?_
  show Go p e below _ (s₁.setTop (mkF m 6 #[.val (.int (2 : Int32)), .val (.int p2), .val (.int p3), .val (.int p4), .unset, .unset, .unset, .unset] [(.int ((p2 &&& (255 : Int32)).toUInt32.toUInt16.toUInt32.toInt32))]))
  refine nameIt (fun zz : Int32 => Go p e below _ (s₁.setTop (mkF m 6 #[.val (.int (2 : Int32)), .val (.int p2), .val (.int p3), .val (.int p4), .unset, .unset, .unset, .unset] [(.int zz)]))) ((p2 &&& (255 : Int32)).toUInt32.toUInt16.toUInt32.toInt32) ?_
  intro v5 hv5
  show Go p e below _ (s₁.setTop (mkF m 6 #[.val (.int (2 : Int32)), .val (.int p2), .val (.int p3), .val (.int p4), .unset, .unset, .unset, .unset] [(.int v5)]))
  refine Go.step (fun t k => XS.istore X0.here hx rfl (hb hby d1_6) rfl (l' := #[.val (.int (2 : Int32)), .val (.int p2), .val (.int p3), .val (.int p4), .val (.int v5), .unset, .unset, .unset]) rfl k) ?_
  show Go p e below _ (s₁.setTop (mkF m 8 #[.val (.int (2 : Int32)), .val (.int p2), .val (.int p3), .val (.int p4), .val (.int v5), .unset, .unset, .unset] []))
  refine Go.step (fun t k => XS.iloadN X0.here hx rfl (hb hby d1_8) rfl k) ?_
  show Go p e below _ (s₁.setTop (mkF m 9 #[.val (.int (2 : Int32)), .val (.int p2), .val (.int p3), .val (.int p4), .val (.int v5), .unset, .unset, .unset] [(.int p3)]))
  refine Go.step (fun t k => XS.sipush X0.here hx rfl (hb hby d1_9)  k) ?_
  show Go p e below _ (s₁.setTop (mkF m 12 #[.val (.int (2 : Int32)), .val (.int p2), .val (.int p3), .val (.int p4), .val (.int v5), .unset, .unset, .unset] [(.int (255 : Int32)), (.int p3)]))
  refine Go.step (fun t k => XS.iand X0.here hx rfl (hb hby d1_12) rfl k) ?_
  show Go p e below _ (s₁.setTop (mkF m 13 #[.val (.int (2 : Int32)), .val (.int p2), .val (.int p3), .val (.int p4), .val (.int v5), .unset, .unset, .unset] [(.int (p3 &&& (255 : Int32)))]))
  refine Go.step (fun t k => XS.i2c X0.here hx rfl (hb hby d1_13) rfl k) ?_
  show Go p e below _ (s₁.setTop (mkF m 14 #[.val (.int (2 : Int32)), .val (.int p2), .val (.int p3), .val (.int p4), .val (.int v5), .unset, .unset, .unset] [(.int ((p3 &&& (255 : Int32)).toUInt32.toUInt16.toUInt32.toInt32))]))
  refine nameIt (fun zz : Int32 => Go p e below _ (s₁.setTop (mkF m 14 #[.val (.int (2 : Int32)), .val (.int p2), .val (.int p3), .val (.int p4), .val (.int v5), .unset, .unset, .unset] [(.int zz)]))) ((p3 &&& (255 : Int32)).toUInt32.toUInt16.toUInt32.toInt32) ?_
  intro v6 hv6
  show Go p e below _ (s₁.setTop (mkF m 14 #[.val (.int (2 : Int32)), .val (.int p2), .val (.int p3), .val (.int p4), .val (.int v5), .unset, .unset, .unset] [(.int v6)]))
  refine Go.step (fun t k => XS.istore X0.here hx rfl (hb hby d1_14) rfl (l' := #[.val (.int (2 : Int32)), .val (.int p2), .val (.int p3), .val (.int p4), .val (.int v5), .val (.int v6), .unset, .unset]) rfl k) ?_
  show Go p e below _ (s₁.setTop (mkF m 16 #[.val (.int (2 : Int32)), .val (.int p2), .val (.int p3), .val (.int p4), .val (.int v5), .val (.int v6), .unset, .unset] []))
  refine Go.step (fun t k => XS.iloadN X0.here hx rfl (hb hby d1_16) rfl k) ?_
  show Go p e below _ (s₁.setTop (mkF m 17 #[.val (.int (2 : Int32)), .val (.int p2), .val (.int p3), .val (.int p4), .val (.int v5), .val (.int v6), .unset, .unset] [(.int p4)]))
  refine Go.step (fun t k => XS.sipush X0.here hx rfl (hb hby d1_17)  k) ?_
  show Go p e below _ (s₁.setTop (mkF m 20 #[.val (.int (2 : Int32)), .val (.int p2), .val (.int p3), .val (.int p4), .val (.int v5), .val (.int v6), .unset, .unset] [(.int (255 : Int32)), (.int p4)]))
  refine Go.step (fun t k => XS.iand X0.here hx rfl (hb hby d1_20) rfl k) ?_
  show Go p e below _ (s₁.setTop (mkF m 21 #[.val (.int (2 : Int32)), .val (.int p2), .val (.int p3), .val (.int p4), .val (.int v5), .val (.int v6), .unset, .unset] [(.int (p4 &&& (255 : Int32)))]))
  refine Go.step (fun t k => XS.i2c X0.here hx rfl (hb hby d1_21) rfl k) ?_
  show Go p e below _ (s₁.setTop (mkF m 22 #[.val (.int (2 : Int32)), .val (.int p2), .val (.int p3), .val (.int p4), .val (.int v5), .val (.int v6), .unset, .unset] [(.int ((p4 &&& (255 : Int32)).toUInt32.toUInt16.toUInt32.toInt32))]))
  refine nameIt (fun zz : Int32 => Go p e below _ (s₁.setTop (mkF m 22 #[.val (.int (2 : Int32)), .val (.int p2), .val (.int p3), .val (.int p4), .val (.int v5), .val (.int v6), .unset, .unset] [(.int zz)]))) ((p4 &&& (255 : Int32)).toUInt32.toUInt16.toUInt32.toInt32) ?_
  intro v7 hv7
  show Go p e below _ (s₁.setTop (mkF m 22 #[.val (.int (2 : Int32)), .val (.int p2), .val (.int p3), .val (.int p4), .val (.int v5), .val (.int v6), .unset, .unset] [(.int v7)]))
  refine Go.step (fun t k => XS.istore X0.here hx rfl (hb hby d1_22) rfl (l' := #[.val (.int (2 : Int32)), .val (.int p2), .val (.int p3), .val (.int p4), .val (.int v5), .val (.int v6), .val (.int v7), .unset]) rfl k) ?_
  show Go p e below _ (s₁.setTop (mkF m 24 #[.val (.int (2 : Int32)), .val (.int p2), .val (.int p3), .val (.int p4), .val (.int v5), .val (.int v6), .val (.int v7), .unset] []))
  have cv5 : Ch v5 := by rw [hv5]; exact ch_mk _
  have cv6 : Ch v6 := by rw [hv6]; exact ch_mk _
  have cv7 : Ch v7 := by rw [hv7]; exact ch_mk _
  show Go p e below _ (s₁.setTop (mkF m 24 #[.val (.int (2 : Int32)), .val (.int p2), .val (.int p3), .val (.int p4), .val (.int v5), .val (.int v6), .val (.int v7), .unset] []))
  refine Go.step (fun t k => XS.iloadN X0.here hx rfl (hb hby d1_24) rfl k) ?_
  show Go p e below _ (s₁.setTop (mkF m 25 #[.val (.int (2 : Int32)), .val (.int p2), .val (.int p3), .val (.int p4), .val (.int v5), .val (.int v6), .val (.int v7), .unset] [(.int (2 : Int32))]))
  refine Go.step (fun t k => XS.ifYes X0.here hx rfl (pc0 := 25) (pc' := 39) rfl (hb hby d1_25) rfl ((if0 _ _).trans (feq (by decide : ¬ ((2 : Int32) = (0 : Int32)))).2) (by decide) (by decide) k) ?_
  show Go p e below _ (s₁.setTop (mkF m 39 #[.val (.int (2 : Int32)), .val (.int p2), .val (.int p3), .val (.int p4), .val (.int v5), .val (.int v6), .val (.int v7), .unset] []))
  refine Go.step (fun t k => XS.iloadN X0.here hx rfl (hb hby d1_39) rfl k) ?_
  show Go p e below _ (s₁.setTop (mkF m 40 #[.val (.int (2 : Int32)), .val (.int p2), .val (.int p3), .val (.int p4), .val (.int v5), .val (.int v6), .val (.int v7), .unset] [(.int (2 : Int32))]))
  refine Go.step (fun t k => XS.iconst X0.here hx rfl (hb hby d1_40)  k) ?_
  show Go p e below _ (s₁.setTop (mkF m 41 #[.val (.int (2 : Int32)), .val (.int p2), .val (.int p3), .val (.int p4), .val (.int v5), .val (.int v6), .val (.int v7), .unset] [(.int (1 : Int32)), (.int (2 : Int32))]))
  refine Go.step (fun t k => XS.icmpYes X0.here hx rfl (pc0 := 41) (pc' := 65) rfl (hb hby d1_41) rfl (feq (by decide : ¬ ((2 : Int32) = (1 : Int32)))).2 (by decide) (by decide) k) ?_
  show Go p e below _ (s₁.setTop (mkF m 65 #[.val (.int (2 : Int32)), .val (.int p2), .val (.int p3), .val (.int p4), .val (.int v5), .val (.int v6), .val (.int v7), .unset] []))
  refine Go.step (fun t k => XS.iloadN X0.here hx rfl (hb hby d1_65) rfl k) ?_
  show Go p e below _ (s₁.setTop (mkF m 66 #[.val (.int (2 : Int32)), .val (.int p2), .val (.int p3), .val (.int p4), .val (.int v5), .val (.int v6), .val (.int v7), .unset] [(.int (2 : Int32))]))
  refine Go.step (fun t k => XS.iconst X0.here hx rfl (hb hby d1_66)  k) ?_
  show Go p e below _ (s₁.setTop (mkF m 67 #[.val (.int (2 : Int32)), .val (.int p2), .val (.int p3), .val (.int p4), .val (.int v5), .val (.int v6), .val (.int v7), .unset] [(.int (2 : Int32)), (.int (2 : Int32))]))
  refine Go.step (fun t k => XS.icmpNo X0.here hx rfl (hb hby d1_67) rfl (teq (rfl : (2 : Int32) = (2 : Int32))).2 k) ?_
  show Go p e below _ (s₁.setTop (mkF m 70 #[.val (.int (2 : Int32)), .val (.int p2), .val (.int p3), .val (.int p4), .val (.int v5), .val (.int v6), .val (.int v7), .unset] []))
  refine Go.step (fun t k => XS.iconst X0.here hx rfl (hb hby d1_70)  k) ?_
  show Go p e below _ (s₁.setTop (mkF m 71 #[.val (.int (2 : Int32)), .val (.int p2), .val (.int p3), .val (.int p4), .val (.int v5), .val (.int v6), .val (.int v7), .unset] [(.int (2 : Int32))]))
  obtain ⟨T8, h8, k8, X8, e8, E8, A8, st8⟩ := newP X0 hx hZ (hw _ (List.mem_of_getElem? (i := 4) rfl)) e0 (g := (mkF m 71 #[.val (.int (2 : Int32)), .val (.int p2), .val (.int p3), .val (.int p4), .val (.int v5), .val (.int v6), .val (.int v7), .unset] [(.int (2 : Int32))])) rfl (hb hby d1_71) rfl (by decide) (cap := 2) (by decide) (by decide) (by decide) (by decide)
  obtain ⟨b8, g8⟩ : ∃ z, z = h0.size := ⟨_, rfl⟩
  rw [← g8] at A8 st8
  have g_b8 : n0 ≤ b8 := Nat.le_trans Z0 (Nat.le_of_eq g8.symm)
  have sz_b8 : h0.size ≤ b8 := Nat.le_trans KK0.1 (Nat.le_of_eq g8.symm)
  refine Go.step st8 ?_
  have O8 := hO.ext E8
  have Z8 := Nat.le_trans Z0 E8.1
  have KK8 : Keep h0 h8 [] := KK0.ext E8
  clear hO Z0 KK0 E8
  have A_b8_8 : Ary Z h8 b8 .char 2 (fun i => .int ((fun _ => (0 : Int32)) i)) := Ary.mk A8 (by decide) (by decide)
  replace X8 : Stand p l e ({ frames := 4, cells := 3, slots := 8, locals := 66 } : Room) s m #[(.int (2 : Int32)), (.int p2), (.int p3), (.int p4)] below meth c T8 _ 1 2 := X8
  show Go p e below _ (T8.setTop (mkF m 73 #[.val (.int (2 : Int32)), .val (.int p2), .val (.int p3), .val (.int p4), .val (.int v5), .val (.int v6), .val (.int v7), .unset] [(.ref b8)]))
  refine Go.step (fun t k => XS.astore X8.here hx rfl (hb hby d1_73) rfl rfl (l' := #[.val (.int (2 : Int32)), .val (.int p2), .val (.int p3), .val (.int p4), .val (.int v5), .val (.int v6), .val (.int v7), .val (.ref b8)]) rfl k) ?_
  show Go p e below _ (T8.setTop (mkF m 75 #[.val (.int (2 : Int32)), .val (.int p2), .val (.int p3), .val (.int p4), .val (.int v5), .val (.int v6), .val (.int v7), .val (.ref b8)] []))
  refine Go.step (fun t k => XS.aload X8.here hx rfl (hb hby d1_75) rfl rfl k) ?_
  show Go p e below _ (T8.setTop (mkF m 77 #[.val (.int (2 : Int32)), .val (.int p2), .val (.int p3), .val (.int p4), .val (.int v5), .val (.int v6), .val (.int v7), .val (.ref b8)] [(.ref b8)]))
  refine Go.step (fun t k => XS.iconst X8.here hx rfl (hb hby d1_77)  k) ?_
  show Go p e below _ (T8.setTop (mkF m 78 #[.val (.int (2 : Int32)), .val (.int p2), .val (.int p3), .val (.int p4), .val (.int v5), .val (.int v6), .val (.int v7), .val (.ref b8)] [(.int (0 : Int32)), (.ref b8)]))
  refine Go.step (fun t k => XS.iload X8.here hx rfl (hb hby d1_78) rfl k) ?_
  show Go p e below _ (T8.setTop (mkF m 80 #[.val (.int (2 : Int32)), .val (.int p2), .val (.int p3), .val (.int p4), .val (.int v5), .val (.int v6), .val (.int v7), .val (.ref b8)] [(.int v5), (.int (0 : Int32)), (.ref b8)]))
  obtain ⟨cl9, Ar9, in9, -⟩ := A_b8_8.hin (j := (0 : Int32)) (by decide) (by decide)
  obtain ⟨T9, h9, X9, e9, W9, st9⟩ := stC X8 hx hZ e8 Ar9 in9 (g := (mkF m 80 #[.val (.int (2 : Int32)), .val (.int p2), .val (.int p3), .val (.int p4), .val (.int v5), .val (.int v6), .val (.int v7), .val (.ref b8)] [(.int v5), (.int (0 : Int32)), (.ref b8)])) rfl rfl (hb hby d1_80)
  refine Go.step st9 ?_
  have N9 := Fr.snoc X9 N0 g_b8
  have O9 := O8.wr W9 g_b8
  have Z9 := Nat.le_trans Z8 (Keep.of_wr W9).1
  have KK9 : Keep h0 h9 [] := KK8.wr W9 (Or.inr sz_b8)
  clear O8 Z8 KK8
  have A_b8_9 : Ary Z h9 b8 .char 2 (fun i => .int ((upA (fun _ => (0 : Int32)) 0 (nar .char v5)) i)) := A_b8_8.setI W9 (by decide)
  show Go p e below _ (T9.setTop (mkF m 81 #[.val (.int (2 : Int32)), .val (.int p2), .val (.int p3), .val (.int p4), .val (.int v5), .val (.int v6), .val (.int v7), .val (.ref b8)] []))
  refine Go.step (fun t k => XS.aload X9.here hx rfl (hb hby d1_81) rfl rfl k) ?_
  show Go p e below _ (T9.setTop (mkF m 83 #[.val (.int (2 : Int32)), .val (.int p2), .val (.int p3), .val (.int p4), .val (.int v5), .val (.int v6), .val (.int v7), .val (.ref b8)] [(.ref b8)]))
  refine Go.step (fun t k => XS.iconst X9.here hx rfl (hb hby d1_83)  k) ?_
  show Go p e below _ (T9.setTop (mkF m 84 #[.val (.int (2 : Int32)), .val (.int p2), .val (.int p3), .val (.int p4), .val (.int v5), .val (.int v6), .val (.int v7), .val (.ref b8)] [(.int (1 : Int32)), (.ref b8)]))
  refine Go.step (fun t k => XS.iload X9.here hx rfl (hb hby d1_84) rfl k) ?_
  show Go p e below _ (T9.setTop (mkF m 86 #[.val (.int (2 : Int32)), .val (.int p2), .val (.int p3), .val (.int p4), .val (.int v5), .val (.int v6), .val (.int v7), .val (.ref b8)] [(.int v6), (.int (1 : Int32)), (.ref b8)]))
  obtain ⟨cl10, Ar10, in10, -⟩ := A_b8_9.hin (j := (1 : Int32)) (by decide) (by decide)
  obtain ⟨T10, h10, X10, e10, W10, st10⟩ := stC X9 hx hZ e9 Ar10 in10 (g := (mkF m 86 #[.val (.int (2 : Int32)), .val (.int p2), .val (.int p3), .val (.int p4), .val (.int v5), .val (.int v6), .val (.int v7), .val (.ref b8)] [(.int v6), (.int (1 : Int32)), (.ref b8)])) rfl rfl (hb hby d1_86)
  refine Go.step st10 ?_
  have N10 := Fr.snoc X10 N9 g_b8
  have O10 := O9.wr W10 g_b8
  have Z10 := Nat.le_trans Z9 (Keep.of_wr W10).1
  have KK10 : Keep h0 h10 [] := KK9.wr W10 (Or.inr sz_b8)
  clear O9 Z9 KK9
  have A_b8_10 : Ary Z h10 b8 .char 2 (fun i => .int ((upA (upA (fun _ => (0 : Int32)) 0 (nar .char v5)) 1 (nar .char v6)) i)) := A_b8_9.setI W10 (by decide)
  show Go p e below _ (T10.setTop (mkF m 87 #[.val (.int (2 : Int32)), .val (.int p2), .val (.int p3), .val (.int p4), .val (.int v5), .val (.int v6), .val (.int v7), .val (.ref b8)] []))
  obtain ⟨T11, h11, X11, e11, E11, A11, D11, -, st11⟩ := newO X10 hx hZ hown (hw _ (List.mem_of_getElem? (i := 5) rfl)) (hw _ (List.mem_of_getElem? (i := 6) rfl)) (hw _ (List.mem_of_getElem? (i := 7) rfl)) e10 (g := (mkF m 87 #[.val (.int (2 : Int32)), .val (.int p2), .val (.int p3), .val (.int p4), .val (.int v5), .val (.int v6), .val (.int v7), .val (.ref b8)] [])) rfl (hb hby d1_87) (by decide) (by decide)
  obtain ⟨b11, g11⟩ : ∃ z, z = h10.size := ⟨_, rfl⟩
  rw [← g11] at A11 D11 st11
  have g_b11 : n0 ≤ b11 := Nat.le_trans Z10 (Nat.le_of_eq g11.symm)
  have sz_b11 : h0.size ≤ b11 := Nat.le_trans KK10.1 (Nat.le_of_eq g11.symm)
  have ne_b8_b11 : b8 ≠ b11 := Nat.ne_of_lt (Nat.lt_of_lt_of_le A_b8_10.lt (Nat.le_of_eq g11.symm))
  refine Go.step st11 ?_
  have A_b8_11 := A_b8_10.ext E11
  have O11 := O10.ext E11
  have Z11 := Nat.le_trans Z10 E11.1
  have KK11 : Keep h0 h11 [] := KK10.ext E11
  clear A_b8_10 O10 Z10 KK10 E11
  have F_coder_b11 : Fld Z h11 b11 "java/lang/String" "coder" "B" (.int (0 : Int32)) := D11 (Or.inr (hw _ (List.mem_of_getElem? (i := 31) rfl))) (ty := .byte) (by decide)
  have F_value_b11 : Fld Z h11 b11 "java/lang/String" "value" "[B" .null := D11 (Or.inr (hw _ (List.mem_of_getElem? (i := 33) rfl))) (ty := (.array .byte)) (by decide)
  replace X11 : Stand p l e ({ frames := 4, cells := 3, slots := 8, locals := 66 } : Room) s m #[(.int (2 : Int32)), (.int p2), (.int p3), (.int p4)] below meth c T11 _ 2 6 := X11
  show Go p e below _ (T11.setTop (mkF m 90 #[.val (.int (2 : Int32)), .val (.int p2), .val (.int p3), .val (.int p4), .val (.int v5), .val (.int v6), .val (.int v7), .val (.ref b8)] [(.ref b11)]))
  refine Go.step (fun t k => XS.dup X11.here hx rfl (hb hby d1_90) rfl rfl k) ?_
  show Go p e below _ (T11.setTop (mkF m 91 #[.val (.int (2 : Int32)), .val (.int p2), .val (.int p3), .val (.int p4), .val (.int v5), .val (.int v6), .val (.int v7), .val (.ref b8)] [(.ref b11), (.ref b11)]))
  refine Go.step (fun t k => XS.aload X11.here hx rfl (hb hby d1_91) rfl rfl k) ?_
  show Go p e below _ (T11.setTop (mkF m 93 #[.val (.int (2 : Int32)), .val (.int p2), .val (.int p3), .val (.int p4), .val (.int v5), .val (.int v6), .val (.int v7), .val (.ref b8)] [(.ref b8), (.ref b11), (.ref b11)]))
  obtain ⟨_, _, ⟨T12, L12, k12, n12⟩, -, X12, ⟨Lc12, hQ12, l12, y12, z12⟩, st12⟩ := X11.specialBack hx (y := (⟨"java/lang/String", "<init>", "([C)V"⟩ : MethodName)) rfl hown (mvT hZ (hw _ (List.mem_of_getElem? (i := 8) rfl))) (mvT hZ (hw _ (List.mem_of_getElem? (i := 9) rfl))) (mvT hZ (hw _ (List.mem_of_getElem? (i := 10) rfl))) (by decide) (backOf (W := 1) (rm2_2 l Z a0 hw [] b11 b8 (upA (upA (fun _ => (0 : Int32)) 0 (nar .char v5)) 1 (nar .char v6)) (.int (0 : Int32)) .null wC h11 n0 Z11 A_b8_11 A11 F_coder_b11 F_value_b11 hC S_COMPACT_STRINGS O11 g_b11 (by simpa [upA, (cv5).1] using (cv5).2 : ¬ ((255 : Int32) < ((upA (upA (fun _ => (0 : Int32)) 0 (nar .char v5)) 1 (nar .char v6)) 0))) (by simpa [upA, (cv6).1] using (cv6).2 : ¬ ((255 : Int32) < ((upA (upA (fun _ => (0 : Int32)) 0 (nar .char v5)) 1 (nar .char v6)) 1))) ne_b8_b11) hZ (hw _ (List.mem_of_getElem? (i := 10) rfl)) (hw _ (List.mem_of_getElem? (i := 7) rfl)) (by decide) (by decide)) (g := (mkF m 93 #[.val (.int (2 : Int32)), .val (.int p2), .val (.int p3), .val (.int p4), .val (.int v5), .val (.int v6), .val (.int v7), .val (.ref b8)] [(.ref b8), (.ref b11), (.ref b11)])) rfl (by rw [hml]; rfl) (Steps.refl _) (a := b11) (argsL := [(.ref b8)]) (rest := [(.ref b11)]) (lenOf pd_4 rfl) rfl (by show 2 * 0 + _ ≤ _; exact Nat.le_of_eq rfl) (hb hby d1_93) (fun _ _ => ⟨rfl, e11, (by decide : 2 + 1 ≤ _), (by decide : 6 + 2 ≤ _)⟩)
  dsimp only [Pt.U, Pt.locs, Pt.cells, Pt.slots] at X12 l12 y12 z12 st12 hQ12
  replace y12 : k12 = 3 := y12
  replace z12 : n12 = 8 := z12
  subst y12 z12
  obtain ⟨rfl, N12q, K12, Q12_0, Q12_1⟩ := hQ12
  have N12 : Fr n0 L12 := Eq.mpr (congrArg (Fr n0) l12) (Fr.app N10 N12q)
  have A_b8_12 := A_b8_11.keep K12 (ninS ne_b8_b11 nin0)
  have E_b11_12 := A11.keep K12
  have O12 := O11.keep K12 (allS g_b11 all0)
  have Z12 := Nat.le_trans Z11 K12.1
  have KK12 : Keep h0 T12.heap [] := KK11.trans K12 (allS (Or.inr sz_b11) all0)
  clear A_b8_11 A11 O11 Z11 KK11 K12
  refine Go.trans st12 ?_
  show Go p e below _ (T12.setTop (mkF m 96 #[.val (.int (2 : Int32)), .val (.int p2), .val (.int p3), .val (.int p4), .val (.int v5), .val (.int v6), .val (.int v7), .val (.ref b8)] [(.ref b11)]))
  subst hv7
  subst hv6
  subst hv5
  refine retGR X12 hx Bd.notSynchronized Bd.returns rfl rfl (hb hby d1_96) ?_ (by decide) (by decide)
  show Q1_2 Z p2 p3 p4 wC h0 n0 _ T12.heap _
  exact ⟨b11, rfl, N12, KK12, sz_b11, Q12_0, Q12_1⟩
theorem d1_97 : decode method_2_code 97 = .ok (.iconst 3, 1) := by decide +kernel
theorem d1_98 : decode method_2_code 98 = .ok (.newarray .char, 2) := by decide +kernel
theorem d1_100 : decode method_2_code 100 = .ok (.astore 7, 2) := by decide +kernel
theorem d1_102 : decode method_2_code 102 = .ok (.aload 7, 2) := by decide +kernel
theorem d1_104 : decode method_2_code 104 = .ok (.iconst 0, 1) := by decide +kernel
theorem d1_105 : decode method_2_code 105 = .ok (.iload 4, 2) := by decide +kernel
theorem d1_107 : decode method_2_code 107 = .ok (.castore, 1) := by decide +kernel
theorem d1_108 : decode method_2_code 108 = .ok (.aload 7, 2) := by decide +kernel
theorem d1_110 : decode method_2_code 110 = .ok (.iconst 1, 1) := by decide +kernel
theorem d1_111 : decode method_2_code 111 = .ok (.iload 5, 2) := by decide +kernel
theorem d1_113 : decode method_2_code 113 = .ok (.castore, 1) := by decide +kernel
theorem d1_114 : decode method_2_code 114 = .ok (.aload 7, 2) := by decide +kernel
theorem d1_116 : decode method_2_code 116 = .ok (.iconst 2, 1) := by decide +kernel
theorem d1_117 : decode method_2_code 117 = .ok (.iload 6, 2) := by decide +kernel
theorem d1_119 : decode method_2_code 119 = .ok (.castore, 1) := by decide +kernel
theorem d1_120 : decode method_2_code 120 = .ok (.new 7, 3) := by decide +kernel
theorem d1_123 : decode method_2_code 123 = .ok (.dup, 1) := by decide +kernel
theorem d1_124 : decode method_2_code 124 = .ok (.aload 7, 2) := by decide +kernel
theorem d1_126 : decode method_2_code 126 = .ok (.invokespecial 9, 3) := by decide +kernel
theorem d1_129 : decode method_2_code 129 = .ok (.areturn, 1) := by decide +kernel
theorem ef_1_3 (m : MethodId) (p2 : Int32) (p3 : Int32) (p4 : Int32) : entryFrame m #[(.int (3 : Int32)), (.int p2), (.int p3), (.int p4)] 8 = mkF m 0 #[.val (.int (3 : Int32)), .val (.int p2), .val (.int p3), .val (.int p4), .unset, .unset, .unset, .unset] [] := by first | (simp [entryFrame, mkF, argsToLocals, Value.category]; done) | rfl
def Q1_3 (Z : State) (p2 : Int32) (p3 : Int32) (p4 : Int32) (wC : Int32) (h0 : Heap) (n0 : Nat) (v : Option Value) (h : Heap) (L : List Loc) : Prop := ∃ (b12 : Addr), v = some (.ref b12) ∧ Fr n0 L ∧ Keep h0 h [] ∧ h0.size ≤ b12 ∧ Exa Z h b12 "java/lang/String" ∧ Fld Z h b12 "java/lang/String" "coder" "B" (.int (0 : Int32))
set_option maxRecDepth 65536 in
set_option maxHeartbeats 40000000 in
theorem rm1_3 (l : Launch) (Z : State) (a0 : Array Value) (hw : ∀ d ∈ tables_1, d.before a0 Z = true) (ws : List Jvm.Cond) (p2 : Int32) (p3 : Int32) (p4 : Int32) (wC : Int32) (h0 : Heap) (n0 : Nat) (Z0 : n0 ≤ h0.size) (hO : Old Z n0 h0) (hC : ¬ (wC = (0 : Int32))) (S_COMPACT_STRINGS : Sta Z Z.heap "java/lang/String" "COMPACT_STRINGS" "Z" (.int wC)) :
    MetFree l (⟨"com/example/menshen/menshen/core/SubjectUserPinLaw", "draw", "(IIII)Ljava/lang/String;"⟩ : MethodName) (head1 (Jvm.Cond.code (⟨"com/example/menshen/menshen/core/SubjectUserPinLaw", "draw", "(IIII)Ljava/lang/String;"⟩ : MethodName) method_2_code 8 (some (.object "java/lang/String")) :: ws) ({ frames := 4, cells := 3, slots := 10, locals := 66 } : Room)) (fun a U => a = #[(.int (3 : Int32)), (.int p2), (.int p3), (.int p4)] ∧ Z.Warmed39 U.vm ∧ U.heap = h0) (fun _ _ _ _ _ => True) (fun _ U o U' => ∃ v L, o = .returned v ∧ Q1_3 Z p2 p3 p4 wC h0 n0 v U'.heap L ∧ FrameEnd U o U' L ({ frames := 4, cells := 3, slots := 10, locals := 66 } : Room).cells ({ frames := 4, cells := 3, slots := 10, locals := 66 } : Room).slots) := by
  refine MetFree.of_bodySF (plainFor_of_name pn_2) hisR ?_
  intro p e s m args below meth c s₁ Bd hml0 hP hK
  obtain ⟨rfl, hZ, hh⟩ := hP
  have hx := Bd.exec
  have hby := Bd.bytes
  have hml : c.maxLocals = 8 := hml0
  have hown : s.vm.findClass "com/example/menshen/menshen/core/SubjectUserPinLaw" = some m.cls := findClass_of_methodNamed Bd.named
  have hnm := (name_of_methodNamed Bd.named Bd.method).1
  have X0 : Stand p l e ({ frames := 4, cells := 3, slots := 10, locals := 66 } : Room) s m #[(.int (3 : Int32)), (.int p2), (.int p3), (.int p4)] below meth c s₁ [] 0 0 := Stand.of_body Bd
  have e0 : s₁.heap = h0 := by rw [← hh, Bd.state]; rfl
  have N0 := Fr.nil n0
  refine Go.done (Go.step (fun t k => castTop (ef_1_3 m p2 p3 p4) k) ?_)
  have KK0 : Keep h0 h0 [] := Keep.refl _ _
  show Go p e below _ (s₁.setTop (mkF m 0 #[.val (.int (3 : Int32)), .val (.int p2), .val (.int p3), .val (.int p4), .unset, .unset, .unset, .unset] []))
  refine Go.step (fun t k => XS.iloadN X0.here hx rfl (hb hby d1_0) rfl k) ?_
  show Go p e below _ (s₁.setTop (mkF m 1 #[.val (.int (3 : Int32)), .val (.int p2), .val (.int p3), .val (.int p4), .unset, .unset, .unset, .unset] [(.int p2)]))
  refine Go.step (fun t k => XS.sipush X0.here hx rfl (hb hby d1_1)  k) ?_
  show Go p e below _ (s₁.setTop (mkF m 4 #[.val (.int (3 : Int32)), .val (.int p2), .val (.int p3), .val (.int p4), .unset, .unset, .unset, .unset] [(.int (255 : Int32)), (.int p2)]))
  refine Go.step (fun t k => XS.iand X0.here hx rfl (hb hby d1_4) rfl k) ?_
  show Go p e below _ (s₁.setTop (mkF m 5 #[.val (.int (3 : Int32)), .val (.int p2), .val (.int p3), .val (.int p4), .unset, .unset, .unset, .unset] [(.int (p2 &&& (255 : Int32)))]))
  refine Go.step (fun t k => XS.i2c X0.here hx rfl (hb hby d1_5) rfl k) ?_
  show Go p e below _ (s₁.setTop (mkF m 6 #[.val (.int (3 : Int32)), .val (.int p2), .val (.int p3), .val (.int p4), .unset, .unset, .unset, .unset] [(.int ((p2 &&& (255 : Int32)).toUInt32.toUInt16.toUInt32.toInt32))]))
  refine nameIt (fun zz : Int32 => Go p e below _ (s₁.setTop (mkF m 6 #[.val (.int (3 : Int32)), .val (.int p2), .val (.int p3), .val (.int p4), .unset, .unset, .unset, .unset] [(.int zz)]))) ((p2 &&& (255 : Int32)).toUInt32.toUInt16.toUInt32.toInt32) ?_
  intro v5 hv5
  show Go p e below _ (s₁.setTop (mkF m 6 #[.val (.int (3 : Int32)), .val (.int p2), .val (.int p3), .val (.int p4), .unset, .unset, .unset, .unset] [(.int v5)]))
  refine Go.step (fun t k => XS.istore X0.here hx rfl (hb hby d1_6) rfl (l' := #[.val (.int (3 : Int32)), .val (.int p2), .val (.int p3), .val (.int p4), .val (.int v5), .unset, .unset, .unset]) rfl k) ?_
  show Go p e below _ (s₁.setTop (mkF m 8 #[.val (.int (3 : Int32)), .val (.int p2), .val (.int p3), .val (.int p4), .val (.int v5), .unset, .unset, .unset] []))
  refine Go.step (fun t k => XS.iloadN X0.here hx rfl (hb hby d1_8) rfl k) ?_
  show Go p e below _ (s₁.setTop (mkF m 9 #[.val (.int (3 : Int32)), .val (.int p2), .val (.int p3), .val (.int p4), .val (.int v5), .unset, .unset, .unset] [(.int p3)]))
  refine Go.step (fun t k => XS.sipush X0.here hx rfl (hb hby d1_9)  k) ?_
  show Go p e below _ (s₁.setTop (mkF m 12 #[.val (.int (3 : Int32)), .val (.int p2), .val (.int p3), .val (.int p4), .val (.int v5), .unset, .unset, .unset] [(.int (255 : Int32)), (.int p3)]))
  refine Go.step (fun t k => XS.iand X0.here hx rfl (hb hby d1_12) rfl k) ?_
  show Go p e below _ (s₁.setTop (mkF m 13 #[.val (.int (3 : Int32)), .val (.int p2), .val (.int p3), .val (.int p4), .val (.int v5), .unset, .unset, .unset] [(.int (p3 &&& (255 : Int32)))]))
  refine Go.step (fun t k => XS.i2c X0.here hx rfl (hb hby d1_13) rfl k) ?_
  show Go p e below _ (s₁.setTop (mkF m 14 #[.val (.int (3 : Int32)), .val (.int p2), .val (.int p3), .val (.int p4), .val (.int v5), .unset, .unset, .unset] [(.int ((p3 &&& (255 : Int32)).toUInt32.toUInt16.toUInt32.toInt32))]))
  refine nameIt (fun zz : Int32 => Go p e below _ (s₁.setTop (mkF m 14 #[.val (.int (3 : Int32)), .val (.int p2), .val (.int p3), .val (.int p4), .val (.int v5), .unset, .unset, .unset] [(.int zz)]))) ((p3 &&& (255 : Int32)).toUInt32.toUInt16.toUInt32.toInt32) ?_
  intro v6 hv6
  show Go p e below _ (s₁.setTop (mkF m 14 #[.val (.int (3 : Int32)), .val (.int p2), .val (.int p3), .val (.int p4), .val (.int v5), .unset, .unset, .unset] [(.int v6)]))
  refine Go.step (fun t k => XS.istore X0.here hx rfl (hb hby d1_14) rfl (l' := #[.val (.int (3 : Int32)), .val (.int p2), .val (.int p3), .val (.int p4), .val (.int v5), .val (.int v6), .unset, .unset]) rfl k) ?_
  show Go p e below _ (s₁.setTop (mkF m 16 #[.val (.int (3 : Int32)), .val (.int p2), .val (.int p3), .val (.int p4), .val (.int v5), .val (.int v6), .unset, .unset] []))
  refine Go.step (fun t k => XS.iloadN X0.here hx rfl (hb hby d1_16) rfl k) ?_
  show Go p e below _ (s₁.setTop (mkF m 17 #[.val (.int (3 : Int32)), .val (.int p2), .val (.int p3), .val (.int p4), .val (.int v5), .val (.int v6), .unset, .unset] [(.int p4)]))
  refine Go.step (fun t k => XS.sipush X0.here hx rfl (hb hby d1_17)  k) ?_
  show Go p e below _ (s₁.setTop (mkF m 20 #[.val (.int (3 : Int32)), .val (.int p2), .val (.int p3), .val (.int p4), .val (.int v5), .val (.int v6), .unset, .unset] [(.int (255 : Int32)), (.int p4)]))
  refine Go.step (fun t k => XS.iand X0.here hx rfl (hb hby d1_20) rfl k) ?_
  show Go p e below _ (s₁.setTop (mkF m 21 #[.val (.int (3 : Int32)), .val (.int p2), .val (.int p3), .val (.int p4), .val (.int v5), .val (.int v6), .unset, .unset] [(.int (p4 &&& (255 : Int32)))]))
  refine Go.step (fun t k => XS.i2c X0.here hx rfl (hb hby d1_21) rfl k) ?_
  show Go p e below _ (s₁.setTop (mkF m 22 #[.val (.int (3 : Int32)), .val (.int p2), .val (.int p3), .val (.int p4), .val (.int v5), .val (.int v6), .unset, .unset] [(.int ((p4 &&& (255 : Int32)).toUInt32.toUInt16.toUInt32.toInt32))]))
  refine nameIt (fun zz : Int32 => Go p e below _ (s₁.setTop (mkF m 22 #[.val (.int (3 : Int32)), .val (.int p2), .val (.int p3), .val (.int p4), .val (.int v5), .val (.int v6), .unset, .unset] [(.int zz)]))) ((p4 &&& (255 : Int32)).toUInt32.toUInt16.toUInt32.toInt32) ?_
  intro v7 hv7
  show Go p e below _ (s₁.setTop (mkF m 22 #[.val (.int (3 : Int32)), .val (.int p2), .val (.int p3), .val (.int p4), .val (.int v5), .val (.int v6), .unset, .unset] [(.int v7)]))
  refine Go.step (fun t k => XS.istore X0.here hx rfl (hb hby d1_22) rfl (l' := #[.val (.int (3 : Int32)), .val (.int p2), .val (.int p3), .val (.int p4), .val (.int v5), .val (.int v6), .val (.int v7), .unset]) rfl k) ?_
  show Go p e below _ (s₁.setTop (mkF m 24 #[.val (.int (3 : Int32)), .val (.int p2), .val (.int p3), .val (.int p4), .val (.int v5), .val (.int v6), .val (.int v7), .unset] []))
  have cv5 : Ch v5 := by rw [hv5]; exact ch_mk _
  have cv6 : Ch v6 := by rw [hv6]; exact ch_mk _
  have cv7 : Ch v7 := by rw [hv7]; exact ch_mk _
  show Go p e below _ (s₁.setTop (mkF m 24 #[.val (.int (3 : Int32)), .val (.int p2), .val (.int p3), .val (.int p4), .val (.int v5), .val (.int v6), .val (.int v7), .unset] []))
  refine Go.step (fun t k => XS.iloadN X0.here hx rfl (hb hby d1_24) rfl k) ?_
  show Go p e below _ (s₁.setTop (mkF m 25 #[.val (.int (3 : Int32)), .val (.int p2), .val (.int p3), .val (.int p4), .val (.int v5), .val (.int v6), .val (.int v7), .unset] [(.int (3 : Int32))]))
  refine Go.step (fun t k => XS.ifYes X0.here hx rfl (pc0 := 25) (pc' := 39) rfl (hb hby d1_25) rfl ((if0 _ _).trans (feq (by decide : ¬ ((3 : Int32) = (0 : Int32)))).2) (by decide) (by decide) k) ?_
  show Go p e below _ (s₁.setTop (mkF m 39 #[.val (.int (3 : Int32)), .val (.int p2), .val (.int p3), .val (.int p4), .val (.int v5), .val (.int v6), .val (.int v7), .unset] []))
  refine Go.step (fun t k => XS.iloadN X0.here hx rfl (hb hby d1_39) rfl k) ?_
  show Go p e below _ (s₁.setTop (mkF m 40 #[.val (.int (3 : Int32)), .val (.int p2), .val (.int p3), .val (.int p4), .val (.int v5), .val (.int v6), .val (.int v7), .unset] [(.int (3 : Int32))]))
  refine Go.step (fun t k => XS.iconst X0.here hx rfl (hb hby d1_40)  k) ?_
  show Go p e below _ (s₁.setTop (mkF m 41 #[.val (.int (3 : Int32)), .val (.int p2), .val (.int p3), .val (.int p4), .val (.int v5), .val (.int v6), .val (.int v7), .unset] [(.int (1 : Int32)), (.int (3 : Int32))]))
  refine Go.step (fun t k => XS.icmpYes X0.here hx rfl (pc0 := 41) (pc' := 65) rfl (hb hby d1_41) rfl (feq (by decide : ¬ ((3 : Int32) = (1 : Int32)))).2 (by decide) (by decide) k) ?_
  show Go p e below _ (s₁.setTop (mkF m 65 #[.val (.int (3 : Int32)), .val (.int p2), .val (.int p3), .val (.int p4), .val (.int v5), .val (.int v6), .val (.int v7), .unset] []))
  refine Go.step (fun t k => XS.iloadN X0.here hx rfl (hb hby d1_65) rfl k) ?_
  show Go p e below _ (s₁.setTop (mkF m 66 #[.val (.int (3 : Int32)), .val (.int p2), .val (.int p3), .val (.int p4), .val (.int v5), .val (.int v6), .val (.int v7), .unset] [(.int (3 : Int32))]))
  refine Go.step (fun t k => XS.iconst X0.here hx rfl (hb hby d1_66)  k) ?_
  show Go p e below _ (s₁.setTop (mkF m 67 #[.val (.int (3 : Int32)), .val (.int p2), .val (.int p3), .val (.int p4), .val (.int v5), .val (.int v6), .val (.int v7), .unset] [(.int (2 : Int32)), (.int (3 : Int32))]))
  refine Go.step (fun t k => XS.icmpYes X0.here hx rfl (pc0 := 67) (pc' := 97) rfl (hb hby d1_67) rfl (feq (by decide : ¬ ((3 : Int32) = (2 : Int32)))).2 (by decide) (by decide) k) ?_
  show Go p e below _ (s₁.setTop (mkF m 97 #[.val (.int (3 : Int32)), .val (.int p2), .val (.int p3), .val (.int p4), .val (.int v5), .val (.int v6), .val (.int v7), .unset] []))
  refine Go.step (fun t k => XS.iconst X0.here hx rfl (hb hby d1_97)  k) ?_
  show Go p e below _ (s₁.setTop (mkF m 98 #[.val (.int (3 : Int32)), .val (.int p2), .val (.int p3), .val (.int p4), .val (.int v5), .val (.int v6), .val (.int v7), .unset] [(.int (3 : Int32))]))
  obtain ⟨T8, h8, k8, X8, e8, E8, A8, st8⟩ := newP X0 hx hZ (hw _ (List.mem_of_getElem? (i := 4) rfl)) e0 (g := (mkF m 98 #[.val (.int (3 : Int32)), .val (.int p2), .val (.int p3), .val (.int p4), .val (.int v5), .val (.int v6), .val (.int v7), .unset] [(.int (3 : Int32))])) rfl (hb hby d1_98) rfl (by decide) (cap := 3) (by decide) (by decide) (by decide) (by decide)
  obtain ⟨b8, g8⟩ : ∃ z, z = h0.size := ⟨_, rfl⟩
  rw [← g8] at A8 st8
  have g_b8 : n0 ≤ b8 := Nat.le_trans Z0 (Nat.le_of_eq g8.symm)
  have sz_b8 : h0.size ≤ b8 := Nat.le_trans KK0.1 (Nat.le_of_eq g8.symm)
  refine Go.step st8 ?_
  have O8 := hO.ext E8
  have Z8 := Nat.le_trans Z0 E8.1
  have KK8 : Keep h0 h8 [] := KK0.ext E8
  clear hO Z0 KK0 E8
  have A_b8_8 : Ary Z h8 b8 .char 3 (fun i => .int ((fun _ => (0 : Int32)) i)) := Ary.mk A8 (by decide) (by decide)
  replace X8 : Stand p l e ({ frames := 4, cells := 3, slots := 10, locals := 66 } : Room) s m #[(.int (3 : Int32)), (.int p2), (.int p3), (.int p4)] below meth c T8 _ 1 3 := X8
  show Go p e below _ (T8.setTop (mkF m 100 #[.val (.int (3 : Int32)), .val (.int p2), .val (.int p3), .val (.int p4), .val (.int v5), .val (.int v6), .val (.int v7), .unset] [(.ref b8)]))
  refine Go.step (fun t k => XS.astore X8.here hx rfl (hb hby d1_100) rfl rfl (l' := #[.val (.int (3 : Int32)), .val (.int p2), .val (.int p3), .val (.int p4), .val (.int v5), .val (.int v6), .val (.int v7), .val (.ref b8)]) rfl k) ?_
  show Go p e below _ (T8.setTop (mkF m 102 #[.val (.int (3 : Int32)), .val (.int p2), .val (.int p3), .val (.int p4), .val (.int v5), .val (.int v6), .val (.int v7), .val (.ref b8)] []))
  refine Go.step (fun t k => XS.aload X8.here hx rfl (hb hby d1_102) rfl rfl k) ?_
  show Go p e below _ (T8.setTop (mkF m 104 #[.val (.int (3 : Int32)), .val (.int p2), .val (.int p3), .val (.int p4), .val (.int v5), .val (.int v6), .val (.int v7), .val (.ref b8)] [(.ref b8)]))
  refine Go.step (fun t k => XS.iconst X8.here hx rfl (hb hby d1_104)  k) ?_
  show Go p e below _ (T8.setTop (mkF m 105 #[.val (.int (3 : Int32)), .val (.int p2), .val (.int p3), .val (.int p4), .val (.int v5), .val (.int v6), .val (.int v7), .val (.ref b8)] [(.int (0 : Int32)), (.ref b8)]))
  refine Go.step (fun t k => XS.iload X8.here hx rfl (hb hby d1_105) rfl k) ?_
  show Go p e below _ (T8.setTop (mkF m 107 #[.val (.int (3 : Int32)), .val (.int p2), .val (.int p3), .val (.int p4), .val (.int v5), .val (.int v6), .val (.int v7), .val (.ref b8)] [(.int v5), (.int (0 : Int32)), (.ref b8)]))
  obtain ⟨cl9, Ar9, in9, -⟩ := A_b8_8.hin (j := (0 : Int32)) (by decide) (by decide)
  obtain ⟨T9, h9, X9, e9, W9, st9⟩ := stC X8 hx hZ e8 Ar9 in9 (g := (mkF m 107 #[.val (.int (3 : Int32)), .val (.int p2), .val (.int p3), .val (.int p4), .val (.int v5), .val (.int v6), .val (.int v7), .val (.ref b8)] [(.int v5), (.int (0 : Int32)), (.ref b8)])) rfl rfl (hb hby d1_107)
  refine Go.step st9 ?_
  have N9 := Fr.snoc X9 N0 g_b8
  have O9 := O8.wr W9 g_b8
  have Z9 := Nat.le_trans Z8 (Keep.of_wr W9).1
  have KK9 : Keep h0 h9 [] := KK8.wr W9 (Or.inr sz_b8)
  clear O8 Z8 KK8
  have A_b8_9 : Ary Z h9 b8 .char 3 (fun i => .int ((upA (fun _ => (0 : Int32)) 0 (nar .char v5)) i)) := A_b8_8.setI W9 (by decide)
  show Go p e below _ (T9.setTop (mkF m 108 #[.val (.int (3 : Int32)), .val (.int p2), .val (.int p3), .val (.int p4), .val (.int v5), .val (.int v6), .val (.int v7), .val (.ref b8)] []))
  refine Go.step (fun t k => XS.aload X9.here hx rfl (hb hby d1_108) rfl rfl k) ?_
  show Go p e below _ (T9.setTop (mkF m 110 #[.val (.int (3 : Int32)), .val (.int p2), .val (.int p3), .val (.int p4), .val (.int v5), .val (.int v6), .val (.int v7), .val (.ref b8)] [(.ref b8)]))
  refine Go.step (fun t k => XS.iconst X9.here hx rfl (hb hby d1_110)  k) ?_
  show Go p e below _ (T9.setTop (mkF m 111 #[.val (.int (3 : Int32)), .val (.int p2), .val (.int p3), .val (.int p4), .val (.int v5), .val (.int v6), .val (.int v7), .val (.ref b8)] [(.int (1 : Int32)), (.ref b8)]))
  refine Go.step (fun t k => XS.iload X9.here hx rfl (hb hby d1_111) rfl k) ?_
  show Go p e below _ (T9.setTop (mkF m 113 #[.val (.int (3 : Int32)), .val (.int p2), .val (.int p3), .val (.int p4), .val (.int v5), .val (.int v6), .val (.int v7), .val (.ref b8)] [(.int v6), (.int (1 : Int32)), (.ref b8)]))
  obtain ⟨cl10, Ar10, in10, -⟩ := A_b8_9.hin (j := (1 : Int32)) (by decide) (by decide)
  obtain ⟨T10, h10, X10, e10, W10, st10⟩ := stC X9 hx hZ e9 Ar10 in10 (g := (mkF m 113 #[.val (.int (3 : Int32)), .val (.int p2), .val (.int p3), .val (.int p4), .val (.int v5), .val (.int v6), .val (.int v7), .val (.ref b8)] [(.int v6), (.int (1 : Int32)), (.ref b8)])) rfl rfl (hb hby d1_113)
  refine Go.step st10 ?_
  have N10 := Fr.snoc X10 N9 g_b8
  have O10 := O9.wr W10 g_b8
  have Z10 := Nat.le_trans Z9 (Keep.of_wr W10).1
  have KK10 : Keep h0 h10 [] := KK9.wr W10 (Or.inr sz_b8)
  clear O9 Z9 KK9
  have A_b8_10 : Ary Z h10 b8 .char 3 (fun i => .int ((upA (upA (fun _ => (0 : Int32)) 0 (nar .char v5)) 1 (nar .char v6)) i)) := A_b8_9.setI W10 (by decide)
  show Go p e below _ (T10.setTop (mkF m 114 #[.val (.int (3 : Int32)), .val (.int p2), .val (.int p3), .val (.int p4), .val (.int v5), .val (.int v6), .val (.int v7), .val (.ref b8)] []))
  refine Go.step (fun t k => XS.aload X10.here hx rfl (hb hby d1_114) rfl rfl k) ?_
  show Go p e below _ (T10.setTop (mkF m 116 #[.val (.int (3 : Int32)), .val (.int p2), .val (.int p3), .val (.int p4), .val (.int v5), .val (.int v6), .val (.int v7), .val (.ref b8)] [(.ref b8)]))
  refine Go.step (fun t k => XS.iconst X10.here hx rfl (hb hby d1_116)  k) ?_
  show Go p e below _ (T10.setTop (mkF m 117 #[.val (.int (3 : Int32)), .val (.int p2), .val (.int p3), .val (.int p4), .val (.int v5), .val (.int v6), .val (.int v7), .val (.ref b8)] [(.int (2 : Int32)), (.ref b8)]))
  refine Go.step (fun t k => XS.iload X10.here hx rfl (hb hby d1_117) rfl k) ?_
  show Go p e below _ (T10.setTop (mkF m 119 #[.val (.int (3 : Int32)), .val (.int p2), .val (.int p3), .val (.int p4), .val (.int v5), .val (.int v6), .val (.int v7), .val (.ref b8)] [(.int v7), (.int (2 : Int32)), (.ref b8)]))
  obtain ⟨cl11, Ar11, in11, -⟩ := A_b8_10.hin (j := (2 : Int32)) (by decide) (by decide)
  obtain ⟨T11, h11, X11, e11, W11, st11⟩ := stC X10 hx hZ e10 Ar11 in11 (g := (mkF m 119 #[.val (.int (3 : Int32)), .val (.int p2), .val (.int p3), .val (.int p4), .val (.int v5), .val (.int v6), .val (.int v7), .val (.ref b8)] [(.int v7), (.int (2 : Int32)), (.ref b8)])) rfl rfl (hb hby d1_119)
  refine Go.step st11 ?_
  have N11 := Fr.snoc X11 N10 g_b8
  have O11 := O10.wr W11 g_b8
  have Z11 := Nat.le_trans Z10 (Keep.of_wr W11).1
  have KK11 : Keep h0 h11 [] := KK10.wr W11 (Or.inr sz_b8)
  clear O10 Z10 KK10
  have A_b8_11 : Ary Z h11 b8 .char 3 (fun i => .int ((upA (upA (upA (fun _ => (0 : Int32)) 0 (nar .char v5)) 1 (nar .char v6)) 2 (nar .char v7)) i)) := A_b8_10.setI W11 (by decide)
  show Go p e below _ (T11.setTop (mkF m 120 #[.val (.int (3 : Int32)), .val (.int p2), .val (.int p3), .val (.int p4), .val (.int v5), .val (.int v6), .val (.int v7), .val (.ref b8)] []))
  obtain ⟨T12, h12, X12, e12, E12, A12, D12, -, st12⟩ := newO X11 hx hZ hown (hw _ (List.mem_of_getElem? (i := 5) rfl)) (hw _ (List.mem_of_getElem? (i := 6) rfl)) (hw _ (List.mem_of_getElem? (i := 7) rfl)) e11 (g := (mkF m 120 #[.val (.int (3 : Int32)), .val (.int p2), .val (.int p3), .val (.int p4), .val (.int v5), .val (.int v6), .val (.int v7), .val (.ref b8)] [])) rfl (hb hby d1_120) (by decide) (by decide)
  obtain ⟨b12, g12⟩ : ∃ z, z = h11.size := ⟨_, rfl⟩
  rw [← g12] at A12 D12 st12
  have g_b12 : n0 ≤ b12 := Nat.le_trans Z11 (Nat.le_of_eq g12.symm)
  have sz_b12 : h0.size ≤ b12 := Nat.le_trans KK11.1 (Nat.le_of_eq g12.symm)
  have ne_b8_b12 : b8 ≠ b12 := Nat.ne_of_lt (Nat.lt_of_lt_of_le A_b8_11.lt (Nat.le_of_eq g12.symm))
  refine Go.step st12 ?_
  have A_b8_12 := A_b8_11.ext E12
  have O12 := O11.ext E12
  have Z12 := Nat.le_trans Z11 E12.1
  have KK12 : Keep h0 h12 [] := KK11.ext E12
  clear A_b8_11 O11 Z11 KK11 E12
  have F_coder_b12 : Fld Z h12 b12 "java/lang/String" "coder" "B" (.int (0 : Int32)) := D12 (Or.inr (hw _ (List.mem_of_getElem? (i := 31) rfl))) (ty := .byte) (by decide)
  have F_value_b12 : Fld Z h12 b12 "java/lang/String" "value" "[B" .null := D12 (Or.inr (hw _ (List.mem_of_getElem? (i := 33) rfl))) (ty := (.array .byte)) (by decide)
  replace X12 : Stand p l e ({ frames := 4, cells := 3, slots := 10, locals := 66 } : Room) s m #[(.int (3 : Int32)), (.int p2), (.int p3), (.int p4)] below meth c T12 _ 2 7 := X12
  show Go p e below _ (T12.setTop (mkF m 123 #[.val (.int (3 : Int32)), .val (.int p2), .val (.int p3), .val (.int p4), .val (.int v5), .val (.int v6), .val (.int v7), .val (.ref b8)] [(.ref b12)]))
  refine Go.step (fun t k => XS.dup X12.here hx rfl (hb hby d1_123) rfl rfl k) ?_
  show Go p e below _ (T12.setTop (mkF m 124 #[.val (.int (3 : Int32)), .val (.int p2), .val (.int p3), .val (.int p4), .val (.int v5), .val (.int v6), .val (.int v7), .val (.ref b8)] [(.ref b12), (.ref b12)]))
  refine Go.step (fun t k => XS.aload X12.here hx rfl (hb hby d1_124) rfl rfl k) ?_
  show Go p e below _ (T12.setTop (mkF m 126 #[.val (.int (3 : Int32)), .val (.int p2), .val (.int p3), .val (.int p4), .val (.int v5), .val (.int v6), .val (.int v7), .val (.ref b8)] [(.ref b8), (.ref b12), (.ref b12)]))
  obtain ⟨_, _, ⟨T13, L13, k13, n13⟩, -, X13, ⟨Lc13, hQ13, l13, y13, z13⟩, st13⟩ := X12.specialBack hx (y := (⟨"java/lang/String", "<init>", "([C)V"⟩ : MethodName)) rfl hown (mvT hZ (hw _ (List.mem_of_getElem? (i := 8) rfl))) (mvT hZ (hw _ (List.mem_of_getElem? (i := 9) rfl))) (mvT hZ (hw _ (List.mem_of_getElem? (i := 10) rfl))) (by decide) (backOf (W := 1) (rm2_3 l Z a0 hw [] b12 b8 (upA (upA (upA (fun _ => (0 : Int32)) 0 (nar .char v5)) 1 (nar .char v6)) 2 (nar .char v7)) (.int (0 : Int32)) .null wC h12 n0 Z12 A_b8_12 A12 F_coder_b12 F_value_b12 hC S_COMPACT_STRINGS O12 g_b12 (by simpa [upA, (cv5).1] using (cv5).2 : ¬ ((255 : Int32) < ((upA (upA (upA (fun _ => (0 : Int32)) 0 (nar .char v5)) 1 (nar .char v6)) 2 (nar .char v7)) 0))) (by simpa [upA, (cv6).1] using (cv6).2 : ¬ ((255 : Int32) < ((upA (upA (upA (fun _ => (0 : Int32)) 0 (nar .char v5)) 1 (nar .char v6)) 2 (nar .char v7)) 1))) (by simpa [upA, (cv7).1] using (cv7).2 : ¬ ((255 : Int32) < ((upA (upA (upA (fun _ => (0 : Int32)) 0 (nar .char v5)) 1 (nar .char v6)) 2 (nar .char v7)) 2))) ne_b8_b12) hZ (hw _ (List.mem_of_getElem? (i := 10) rfl)) (hw _ (List.mem_of_getElem? (i := 7) rfl)) (by decide) (by decide)) (g := (mkF m 126 #[.val (.int (3 : Int32)), .val (.int p2), .val (.int p3), .val (.int p4), .val (.int v5), .val (.int v6), .val (.int v7), .val (.ref b8)] [(.ref b8), (.ref b12), (.ref b12)])) rfl (by rw [hml]; rfl) (Steps.refl _) (a := b12) (argsL := [(.ref b8)]) (rest := [(.ref b12)]) (lenOf pd_4 rfl) rfl (by show 2 * 0 + _ ≤ _; exact Nat.le_of_eq rfl) (hb hby d1_126) (fun _ _ => ⟨rfl, e12, (by decide : 2 + 1 ≤ _), (by decide : 7 + 3 ≤ _)⟩)
  dsimp only [Pt.U, Pt.locs, Pt.cells, Pt.slots] at X13 l13 y13 z13 st13 hQ13
  replace y13 : k13 = 3 := y13
  replace z13 : n13 = 10 := z13
  subst y13 z13
  obtain ⟨rfl, N13q, K13, Q13_0, Q13_1⟩ := hQ13
  have N13 : Fr n0 L13 := Eq.mpr (congrArg (Fr n0) l13) (Fr.app N11 N13q)
  have A_b8_13 := A_b8_12.keep K13 (ninS ne_b8_b12 nin0)
  have E_b12_13 := A12.keep K13
  have O13 := O12.keep K13 (allS g_b12 all0)
  have Z13 := Nat.le_trans Z12 K13.1
  have KK13 : Keep h0 T13.heap [] := KK12.trans K13 (allS (Or.inr sz_b12) all0)
  clear A_b8_12 A12 O12 Z12 KK12 K13
  refine Go.trans st13 ?_
  show Go p e below _ (T13.setTop (mkF m 129 #[.val (.int (3 : Int32)), .val (.int p2), .val (.int p3), .val (.int p4), .val (.int v5), .val (.int v6), .val (.int v7), .val (.ref b8)] [(.ref b12)]))
  subst hv7
  subst hv6
  subst hv5
  refine retGR X13 hx Bd.notSynchronized Bd.returns rfl rfl (hb hby d1_129) ?_ (by decide) (by decide)
  show Q1_3 Z p2 p3 p4 wC h0 n0 _ T13.heap _
  exact ⟨b12, rfl, N13, KK13, sz_b12, Q13_0, Q13_1⟩
theorem d9_0 : decode jdk_31_method_11_code 0 = .ok (.aload_n 0, 1) := by decide +kernel
theorem d9_1 : decode jdk_31_method_11_code 1 = .ok (.ifnonnull 12, 3) := by decide +kernel
theorem d9_13 : decode jdk_31_method_11_code 13 = .ok (.aload_n 0, 1) := by decide +kernel
theorem d9_14 : decode jdk_31_method_11_code 14 = .ok (.areturn, 1) := by decide +kernel
theorem ef_9 (m : MethodId) (a1 : Addr) (a2 : Addr) : entryFrame m #[(.ref a1), (.ref a2)] 2 = mkF m 0 #[.val (.ref a1), .val (.ref a2)] [] := by first | (simp [entryFrame, mkF, argsToLocals, Value.category]; done) | rfl
theorem pn_3 : plainName "java/util/Objects" = true := by first | (simp [plainName, overriddenIn]; done) | decide +kernel
set_option maxRecDepth 65536 in
set_option maxHeartbeats 40000000 in
theorem rm9 (l : Launch) (Z : State) (a0 : Array Value) (hw : ∀ d ∈ tables_1, d.before a0 Z = true) (ws : List Jvm.Cond) (a1 : Addr) (a2 : Addr) (h0 : Heap) (n0 : Nat) (Z0 : n0 ≤ h0.size) :
    MetFree l (⟨"java/util/Objects", "requireNonNull", "(Ljava/lang/Object;Ljava/lang/String;)Ljava/lang/Object;"⟩ : MethodName) (head1 (Jvm.Cond.code (⟨"java/util/Objects", "requireNonNull", "(Ljava/lang/Object;Ljava/lang/String;)Ljava/lang/Object;"⟩ : MethodName) jdk_31_method_11_code 2 (some (.object "java/lang/Object")) :: ws) ({ frames := 0, cells := 0, slots := 0, locals := 0 } : Room)) (fun a U => a = #[(.ref a1), (.ref a2)] ∧ Z.Warmed39 U.vm ∧ U.heap = h0) (fun _ _ _ _ _ => True) (fun _ U o U' => ∃ v L, o = .returned v ∧ QP (.ref a1) h0 n0 v U'.heap L ∧ FrameEnd U o U' L ({ frames := 0, cells := 0, slots := 0, locals := 0 } : Room).cells ({ frames := 0, cells := 0, slots := 0, locals := 0 } : Room).slots) := by
  refine MetFree.of_bodySF (plainFor_of_name pn_3) hisR ?_
  intro p e s m args below meth c s₁ Bd hml0 hP hK
  obtain ⟨rfl, hZ, hh⟩ := hP
  have hx := Bd.exec
  have hby := Bd.bytes
  have hml : c.maxLocals = 2 := hml0
  have hown : s.vm.findClass "java/util/Objects" = some m.cls := findClass_of_methodNamed Bd.named
  have hnm := (name_of_methodNamed Bd.named Bd.method).1
  have X0 : Stand p l e ({ frames := 0, cells := 0, slots := 0, locals := 0 } : Room) s m #[(.ref a1), (.ref a2)] below meth c s₁ [] 0 0 := Stand.of_body Bd
  have e0 : s₁.heap = h0 := by rw [← hh, Bd.state]; rfl
  have N0 := Fr.nil n0
  refine Go.done (Go.step (fun t k => castTop (ef_9 m a1 a2) k) ?_)
  have KK0 : Keep h0 h0 [] := Keep.refl _ _
  show Go p e below _ (s₁.setTop (mkF m 0 #[.val (.ref a1), .val (.ref a2)] []))
  refine Go.step (fun t k => XS.aloadN X0.here hx rfl (hb hby d9_0) rfl rfl k) ?_
  show Go p e below _ (s₁.setTop (mkF m 1 #[.val (.ref a1), .val (.ref a2)] [(.ref a1)]))
  refine Go.step (fun t k => XS.ifnonnullYes X0.here hx rfl (pc0 := 1) (pc' := 13) rfl (hb hby d9_1) rfl (by decide) (by decide) k) ?_
  show Go p e below _ (s₁.setTop (mkF m 13 #[.val (.ref a1), .val (.ref a2)] []))
  refine Go.step (fun t k => XS.aloadN X0.here hx rfl (hb hby d9_13) rfl rfl k) ?_
  show Go p e below _ (s₁.setTop (mkF m 14 #[.val (.ref a1), .val (.ref a2)] [(.ref a1)]))
  exact retGR X0 hx Bd.notSynchronized Bd.returns rfl rfl (hb hby d9_14) ⟨rfl, N0, e0⟩ (by decide) (by decide)
theorem d11_0 : decode jdk_30_method_1_code 0 = .ok (.aload_n 0, 1) := by decide +kernel
theorem d11_1 : decode jdk_30_method_1_code 1 = .ok (.invokespecial 1, 3) := by decide +kernel
theorem d11_4 : decode jdk_30_method_1_code 4 = .ok (.return_, 1) := by decide +kernel
theorem ef_11 (m : MethodId) (a1 : Addr) : entryFrame m #[(.ref a1)] 1 = mkF m 0 #[.val (.ref a1)] [] := by first | (simp [entryFrame, mkF, argsToLocals, Value.category]; done) | rfl
theorem pn_4 : plainName "java/lang/Record" = true := by first | (simp [plainName, overriddenIn]; done) | decide +kernel
set_option maxRecDepth 65536 in
set_option maxHeartbeats 40000000 in
theorem rm11 (l : Launch) (Z : State) (a0 : Array Value) (hw : ∀ d ∈ tables_1, d.before a0 Z = true) (ws : List Jvm.Cond) (a1 : Addr) (h0 : Heap) (n0 : Nat) (Z0 : n0 ≤ h0.size) :
    MetFree l (⟨"java/lang/Record", "<init>", "()V"⟩ : MethodName) (head1 (Jvm.Cond.code (⟨"java/lang/Record", "<init>", "()V"⟩ : MethodName) jdk_30_method_1_code 1 none :: ws) ({ frames := 1, cells := 0, slots := 0, locals := 12 } : Room)) (fun a U => a = #[(.ref a1)] ∧ Z.Warmed39 U.vm ∧ U.heap = h0) (fun _ _ _ _ _ => True) (fun _ U o U' => ∃ v L, o = .returned v ∧ QV h0 n0 v U'.heap L ∧ FrameEnd U o U' L ({ frames := 1, cells := 0, slots := 0, locals := 12 } : Room).cells ({ frames := 1, cells := 0, slots := 0, locals := 12 } : Room).slots) := by
  refine MetFree.of_bodySF (plainFor_of_name pn_4) hisR ?_
  intro p e s m args below meth c s₁ Bd hml0 hP hK
  obtain ⟨rfl, hZ, hh⟩ := hP
  have hx := Bd.exec
  have hby := Bd.bytes
  have hml : c.maxLocals = 1 := hml0
  have hown : s.vm.findClass "java/lang/Record" = some m.cls := findClass_of_methodNamed Bd.named
  have hnm := (name_of_methodNamed Bd.named Bd.method).1
  have X0 : Stand p l e ({ frames := 1, cells := 0, slots := 0, locals := 12 } : Room) s m #[(.ref a1)] below meth c s₁ [] 0 0 := Stand.of_body Bd
  have e0 : s₁.heap = h0 := by rw [← hh, Bd.state]; rfl
  have N0 := Fr.nil n0
  refine Go.done (Go.step (fun t k => castTop (ef_11 m a1) k) ?_)
  have KK0 : Keep h0 h0 [] := Keep.refl _ _
  show Go p e below _ (s₁.setTop (mkF m 0 #[.val (.ref a1)] []))
  refine Go.step (fun t k => XS.aloadN X0.here hx rfl (hb hby d11_0) rfl rfl k) ?_
  show Go p e below _ (s₁.setTop (mkF m 1 #[.val (.ref a1)] [(.ref a1)]))
  obtain ⟨T2, X2, e2, st2⟩ := initO X0 hx hZ hown (hw _ (List.mem_of_getElem? (i := 59) rfl)) (hw _ (List.mem_of_getElem? (i := 16) rfl)) (hw _ (List.mem_of_getElem? (i := 17) rfl)) e0 (g := (mkF m 1 #[.val (.ref a1)] [(.ref a1)])) rfl (by rw [hml]; rfl) rfl (hb hby d11_1) (by decide) (W := 0) (by show 2 * 0 + _ ≤ _; exact Nat.le_of_eq rfl) (by decide)
  refine Go.step st2 ?_
  show Go p e below _ (T2.setTop (mkF m 4 #[.val (.ref a1)] []))
  exact retGV X2 hx Bd.notSynchronized Bd.returns (hb hby d11_4) ⟨rfl, N0, e2⟩ (by decide) (by decide)
theorem d10_0 : decode prog_28_method_1_code 0 = .ok (.aload_n 0, 1) := by decide +kernel
theorem d10_1 : decode prog_28_method_1_code 1 = .ok (.invokespecial 1, 3) := by decide +kernel
theorem pd_5 : parseMethodDescriptor "()V" = some ⟨[], none⟩ := by decide +kernel
theorem d10_4 : decode prog_28_method_1_code 4 = .ok (.aload_n 1, 1) := by decide +kernel
theorem d10_5 : decode prog_28_method_1_code 5 = .ok (.ldc 7, 2) := by decide +kernel
theorem d10_7 : decode prog_28_method_1_code 7 = .ok (.invokestatic 9, 3) := by decide +kernel
theorem pd_6 : parseMethodDescriptor "(Ljava/lang/Object;Ljava/lang/String;)Ljava/lang/Object;" = some ⟨[(.object "java/lang/Object"), (.object "java/lang/String")], some (.object "java/lang/Object")⟩ := by decide +kernel
theorem d10_10 : decode prog_28_method_1_code 10 = .ok (.pop, 1) := by decide +kernel
theorem d10_11 : decode prog_28_method_1_code 11 = .ok (.aload_n 1, 1) := by decide +kernel
theorem d10_12 : decode prog_28_method_1_code 12 = .ok (.getstatic 15, 3) := by decide +kernel
theorem d10_15 : decode prog_28_method_1_code 15 = .ok (.if_acmp .ne 7, 3) := by decide +kernel
theorem d10_22 : decode prog_28_method_1_code 22 = .ok (.iconst 0, 1) := by decide +kernel
theorem d10_23 : decode prog_28_method_1_code 23 = .ok (.aload_n 2, 1) := by decide +kernel
theorem d10_24 : decode prog_28_method_1_code 24 = .ok (.ifnonnull 7, 3) := by decide +kernel
theorem d10_31 : decode prog_28_method_1_code 31 = .ok (.iconst 0, 1) := by decide +kernel
theorem d10_32 : decode prog_28_method_1_code 32 = .ok (.if_icmp .eq 13, 3) := by decide +kernel
theorem d10_45 : decode prog_28_method_1_code 45 = .ok (.aload_n 0, 1) := by decide +kernel
theorem d10_46 : decode prog_28_method_1_code 46 = .ok (.aload_n 1, 1) := by decide +kernel
theorem d10_47 : decode prog_28_method_1_code 47 = .ok (.putfield 28, 3) := by decide +kernel
theorem d10_50 : decode prog_28_method_1_code 50 = .ok (.aload_n 0, 1) := by decide +kernel
theorem d10_51 : decode prog_28_method_1_code 51 = .ok (.aload_n 2, 1) := by decide +kernel
theorem d10_52 : decode prog_28_method_1_code 52 = .ok (.putfield 32, 3) := by decide +kernel
theorem d10_55 : decode prog_28_method_1_code 55 = .ok (.return_, 1) := by decide +kernel
theorem ef_10 (m : MethodId) (a1 : Addr) (a2 : Addr) (a3 : Addr) : entryFrame m #[(.ref a1), (.ref a2), (.ref a3)] 3 = mkF m 0 #[.val (.ref a1), .val (.ref a2), .val (.ref a3)] [] := by first | (simp [entryFrame, mkF, argsToLocals, Value.category]; done) | rfl
theorem pn_5 : plainName "com/example/menshen/menshen/core/Subject" = true := by first | (simp [plainName, overriddenIn]; done) | decide +kernel
def Q10 (Z : State) (a1 : Addr) (a2 : Addr) (a3 : Addr) (u_kind_a1 : Value) (u_id_a1 : Value) (oV : Addr) (h0 : Heap) (n0 : Nat) (v : Option Value) (h : Heap) (L : List Loc) : Prop := v = none ∧ Fr n0 L ∧ Keep h0 h [a1] ∧ Exa Z h a1 "com/example/menshen/menshen/core/Subject" ∧ Fld Z h a1 "com/example/menshen/menshen/core/Subject" "kind" "Lcom/example/menshen/menshen/core/Subject$Kind;" (.ref a2) ∧ Fld Z h a1 "com/example/menshen/menshen/core/Subject" "id" "Ljava/lang/String;" (.ref a3)
set_option maxRecDepth 65536 in
set_option maxHeartbeats 40000000 in
theorem rm10 (l : Launch) (Z : State) (a0 : Array Value) (hw : ∀ d ∈ tables_1, d.before a0 Z = true) (ws : List Jvm.Cond) (a1 : Addr) (a2 : Addr) (a3 : Addr) (u_kind_a1 : Value) (u_id_a1 : Value) (oV : Addr) (h0 : Heap) (n0 : Nat) (Z0 : n0 ≤ h0.size) (hO : Old Z n0 h0) (E_a1 : Exa Z h0 a1 "com/example/menshen/menshen/core/Subject") (F_kind_a1 : Fld Z h0 a1 "com/example/menshen/menshen/core/Subject" "kind" "Lcom/example/menshen/menshen/core/Subject$Kind;" u_kind_a1) (F_id_a1 : Fld Z h0 a1 "com/example/menshen/menshen/core/Subject" "id" "Ljava/lang/String;" u_id_a1) (S_EVERYONE : Sta Z Z.heap "com/example/menshen/menshen/core/Subject$Kind" "EVERYONE" "Lcom/example/menshen/menshen/core/Subject$Kind;" (.ref oV)) (hne_a2_oV : a2 ≠ oV) (g_a1 : n0 ≤ a1) :
    MetFree l (⟨"com/example/menshen/menshen/core/Subject", "<init>", "(Lcom/example/menshen/menshen/core/Subject$Kind;Ljava/lang/String;)V"⟩ : MethodName) (head1 (Jvm.Cond.code (⟨"com/example/menshen/menshen/core/Subject", "<init>", "(Lcom/example/menshen/menshen/core/Subject$Kind;Ljava/lang/String;)V"⟩ : MethodName) prog_28_method_1_code 3 none :: ws) ({ frames := 2, cells := 2, slots := 20, locals := 24 } : Room)) (fun a U => a = #[(.ref a1), (.ref a2), (.ref a3)] ∧ Z.Warmed39 U.vm ∧ U.heap = h0) (fun _ _ _ _ _ => True) (fun _ U o U' => ∃ v L, o = .returned v ∧ Q10 Z a1 a2 a3 u_kind_a1 u_id_a1 oV h0 n0 v U'.heap L ∧ ReturnedEndW U o U' L ({ frames := 2, cells := 2, slots := 20, locals := 24 } : Room).cells ({ frames := 2, cells := 2, slots := 20, locals := 24 } : Room).slots) := by
  refine MetFree.of_bodySF (plainFor_of_name pn_5) hisR ?_
  intro p e s m args below meth c s₁ Bd hml0 hP hK
  obtain ⟨rfl, hZ, hh⟩ := hP
  have hx := Bd.exec
  have hby := Bd.bytes
  have hml : c.maxLocals = 3 := hml0
  have hown : s.vm.findClass "com/example/menshen/menshen/core/Subject" = some m.cls := findClass_of_methodNamed Bd.named
  have hnm := (name_of_methodNamed Bd.named Bd.method).1
  have X0 : Stand p l e ({ frames := 2, cells := 2, slots := 20, locals := 24 } : Room) s m #[(.ref a1), (.ref a2), (.ref a3)] below meth c s₁ [] 0 0 := Stand.of_body Bd
  have e0 : s₁.heap = h0 := by rw [← hh, Bd.state]; rfl
  have N0 := Fr.nil n0
  refine Go.doneW (Go.step (fun t k => castTop (ef_10 m a1 a2 a3) k) ?_)
  have hS0 : s.Since s.vm h0.size := (State.WarmedH.refl s).since _
  have hk0 : h0.size ≤ h0.size := Nat.le_refl _
  replace X0 : Stand p l e ({ frames := 2, cells := 2, slots := 20, locals := 24 } : Room) (s.setVm s.vm) m #[(.ref a1), (.ref a2), (.ref a3)] below meth c s₁ [] 0 0 := X0
  replace hZ : Z.Warmed39 (s.setVm s.vm).vm := hZ
  replace hown : (s.setVm s.vm).vm.findClass "com/example/menshen/menshen/core/Subject" = some m.cls := hown
  have KK0 : Keep h0 h0 [a1] := Keep.refl _ _
  show Go p e below _ (s₁.setTop (mkF m 0 #[.val (.ref a1), .val (.ref a2), .val (.ref a3)] []))
  refine Go.step (fun t k => XS.aloadN X0.here hx rfl (hb hby d10_0) rfl rfl k) ?_
  show Go p e below _ (s₁.setTop (mkF m 1 #[.val (.ref a1), .val (.ref a2), .val (.ref a3)] [(.ref a1)]))
  obtain ⟨_, _, ⟨T4, L4, k4, n4⟩, -, X4, ⟨Lc4, hQ4, l4, y4, z4⟩, st4⟩ := X0.specialBack hx (y := (⟨"java/lang/Record", "<init>", "()V"⟩ : MethodName)) rfl hown (mvT hZ (hw _ (List.mem_of_getElem? (i := 54) rfl))) (mvT hZ (hw _ (List.mem_of_getElem? (i := 55) rfl))) (mvT hZ (hw _ (List.mem_of_getElem? (i := 58) rfl))) (by decide) (backOf (W := 0) (rm11 l Z a0 hw [] a1 h0 n0 Z0) hZ (hw _ (List.mem_of_getElem? (i := 58) rfl)) (hw _ (List.mem_of_getElem? (i := 57) rfl)) (by decide) (by decide)) (g := (mkF m 1 #[.val (.ref a1), .val (.ref a2), .val (.ref a3)] [(.ref a1)])) rfl (by rw [hml]; rfl) (Steps.refl _) (a := a1) (argsL := []) (rest := []) (lenOf pd_5 rfl) rfl (by show 2 * 0 + _ ≤ _; exact Nat.le_of_eq rfl) (hb hby d10_1) (fun _ _ => ⟨rfl, e0, (by decide : 0 + 0 ≤ _), (by decide : 0 + 0 ≤ _)⟩)
  dsimp only [Pt.U, Pt.locs, Pt.cells, Pt.slots] at X4 l4 y4 z4 st4 hQ4
  replace y4 : k4 = 0 := y4
  replace z4 : n4 = 0 := z4
  subst y4 z4
  obtain ⟨rfl, N4q, e4⟩ := hQ4
  have N4 : Fr n0 L4 := Eq.mpr (congrArg (Fr n0) l4) (Fr.app N0 N4q)
  refine Go.trans st4 ?_
  show Go p e below _ (T4.setTop (mkF m 4 #[.val (.ref a1), .val (.ref a2), .val (.ref a3)] []))
  refine Go.step (fun t k => XS.aloadN X4.here hx rfl (hb hby d10_4) rfl rfl k) ?_
  show Go p e below _ (T4.setTop (mkF m 5 #[.val (.ref a1), .val (.ref a2), .val (.ref a3)] [(.ref a2)]))
  obtain ⟨lt5, T5, h5, k5, X5, e5, E5, hS5, hq5, hZ, hown, st5⟩ := ldcS X4 hx hZ hown (hw _ (List.mem_of_getElem? (i := 60) rfl)) (wS hw) e4 hS0 hk0 (g := (mkF m 5 #[.val (.ref a1), .val (.ref a2), .val (.ref a3)] [(.ref a2)])) rfl (hb hby d10_5) (n := 16) (by decide) (by decide) (by decide) (by decide)
  refine Go.step st5 ?_
  have E_a1_5 := E_a1.ext E5
  have F_kind_a1_5 := F_kind_a1.ext E5
  have F_id_a1_5 := F_id_a1.ext E5
  have O5 := hO.ext E5
  have Z5 := Nat.le_trans Z0 E5.1
  have KK5 : Keep h0 h5 [a1] := KK0.ext E5
  clear E_a1 F_kind_a1 F_id_a1 hO Z0 KK0 E5
  replace X5 : Stand p l e ({ frames := 2, cells := 2, slots := 20, locals := 24 } : Room) (s.setVm T5.vm) m #[(.ref a1), (.ref a2), (.ref a3)] below meth c T5 _ 2 20 := X5
  show Go p e below _ (T5.setTop (mkF m 7 #[.val (.ref a1), .val (.ref a2), .val (.ref a3)] [(.ref lt5), (.ref a2)]))
  obtain ⟨_, _, ⟨T6, L6, k6, n6⟩, -, X6, ⟨Lc6, hQ6, l6, y6, z6⟩, st6⟩ := Jvm.LawKit.callS X5 hx (y := (⟨"java/util/Objects", "requireNonNull", "(Ljava/lang/Object;Ljava/lang/String;)Ljava/lang/Object;"⟩ : MethodName)) hown (mvT hZ (hw _ (List.mem_of_getElem? (i := 46) rfl))) (mvT hZ (hw _ (List.mem_of_getElem? (i := 47) rfl))) (mvT hZ (hw _ (List.mem_of_getElem? (i := 48) rfl))) (mvT hZ (hw _ (List.mem_of_getElem? (i := 49) rfl))) (by decide) (backOf (W := 0) (rm9 l Z a0 hw [] a2 lt5 h5 n0 Z5) hZ (hw _ (List.mem_of_getElem? (i := 49) rfl)) (hw _ (List.mem_of_getElem? (i := 48) rfl)) (by decide) (by decide)) (g := (mkF m 7 #[.val (.ref a1), .val (.ref a2), .val (.ref a3)] [(.ref lt5), (.ref a2)])) rfl (by rw [hml]; rfl) (argsL := [(.ref a2), (.ref lt5)]) (rest := []) (lenOf pd_6 rfl) rfl (by show 2 * 0 + _ ≤ _; exact Nat.le_of_eq rfl) (hb hby d10_7) (fun _ _ => ⟨rfl, e5, (by decide : 2 + 0 ≤ _), (by decide : 20 + 0 ≤ _)⟩)
  dsimp only [Pt.U, Pt.locs, Pt.cells, Pt.slots] at X6 l6 y6 z6 st6 hQ6
  replace y6 : k6 = 2 := y6
  replace z6 : n6 = 20 := z6
  subst y6 z6
  obtain ⟨rfl, N6q, e6⟩ := hQ6
  have N6 : Fr n0 L6 := Eq.mpr (congrArg (Fr n0) l6) (Fr.app N4 N6q)
  refine Go.step st6 ?_
  show Go p e below _ (T6.setTop (mkF m 10 #[.val (.ref a1), .val (.ref a2), .val (.ref a3)] [(.ref a2)]))
  refine Go.step (fun t k => XS.pop X6.here hx rfl (hb hby d10_10) rfl rfl k) ?_
  show Go p e below _ (T6.setTop (mkF m 11 #[.val (.ref a1), .val (.ref a2), .val (.ref a3)] []))
  refine Go.step (fun t k => XS.aloadN X6.here hx rfl (hb hby d10_11) rfl rfl k) ?_
  show Go p e below _ (T6.setTop (mkF m 12 #[.val (.ref a1), .val (.ref a2), .val (.ref a3)] [(.ref a2)]))
  obtain ⟨T7, X7, e7, st7⟩ := getS2 X6 hx hZ hown (host := "") (Or.inl (hw _ (List.mem_of_getElem? (i := 61) rfl))) Via.refl e6 (S_EVERYONE.ext O5.2) (g := (mkF m 12 #[.val (.ref a1), .val (.ref a2), .val (.ref a3)] [(.ref a2)])) rfl (hb hby d10_12)
  refine Go.step st7 ?_
  show Go p e below _ (T7.setTop (mkF m 15 #[.val (.ref a1), .val (.ref a2), .val (.ref a3)] [(.ref oV), (.ref a2)]))
  refine Go.step (fun t k => Jvm.RoadKit.acmp (g := (mkF m 15 #[.val (.ref a1), .val (.ref a2), .val (.ref a3)] [(.ref oV), (.ref a2)])) X7 hx rfl rfl rfl (pc0 := 15) (pc' := 22) (same := false) rfl (hb hby d10_15) rfl (decide_eq_false fun q => hne_a2_oV (Value.ref.inj q)) (by decide) (by decide) k) ?_
  show Go p e below _ (T7.setTop (mkF m 22 #[.val (.ref a1), .val (.ref a2), .val (.ref a3)] []))
  refine Go.step (fun t k => XS.iconst X7.here hx rfl (hb hby d10_22)  k) ?_
  show Go p e below _ (T7.setTop (mkF m 23 #[.val (.ref a1), .val (.ref a2), .val (.ref a3)] [(.int (0 : Int32))]))
  refine Go.step (fun t k => XS.aloadN X7.here hx rfl (hb hby d10_23) rfl rfl k) ?_
  show Go p e below _ (T7.setTop (mkF m 24 #[.val (.ref a1), .val (.ref a2), .val (.ref a3)] [(.ref a3), (.int (0 : Int32))]))
  refine Go.step (fun t k => XS.ifnonnullYes X7.here hx rfl (pc0 := 24) (pc' := 31) rfl (hb hby d10_24) rfl (by decide) (by decide) k) ?_
  show Go p e below _ (T7.setTop (mkF m 31 #[.val (.ref a1), .val (.ref a2), .val (.ref a3)] [(.int (0 : Int32))]))
  refine Go.step (fun t k => XS.iconst X7.here hx rfl (hb hby d10_31)  k) ?_
  show Go p e below _ (T7.setTop (mkF m 32 #[.val (.ref a1), .val (.ref a2), .val (.ref a3)] [(.int (0 : Int32)), (.int (0 : Int32))]))
  refine Go.step (fun t k => XS.icmpYes X7.here hx rfl (pc0 := 32) (pc' := 45) rfl (hb hby d10_32) rfl (teq (rfl : (0 : Int32) = (0 : Int32))).1 (by decide) (by decide) k) ?_
  show Go p e below _ (T7.setTop (mkF m 45 #[.val (.ref a1), .val (.ref a2), .val (.ref a3)] []))
  refine Go.step (fun t k => XS.aloadN X7.here hx rfl (hb hby d10_45) rfl rfl k) ?_
  show Go p e below _ (T7.setTop (mkF m 46 #[.val (.ref a1), .val (.ref a2), .val (.ref a3)] [(.ref a1)]))
  refine Go.step (fun t k => XS.aloadN X7.here hx rfl (hb hby d10_46) rfl rfl k) ?_
  show Go p e below _ (T7.setTop (mkF m 47 #[.val (.ref a1), .val (.ref a2), .val (.ref a3)] [(.ref a2), (.ref a1)]))
  obtain ⟨T8, h8, X8, e8, W8, st8⟩ := putF X7 hx hZ hown (host := "") (Or.inl (hw _ (List.mem_of_getElem? (i := 63) rfl))) Via.refl e7 F_kind_a1_5 E_a1_5 (Or.inr ⟨(hw _ (List.mem_of_getElem? (i := 64) rfl)), rfl, hnm⟩) (hw _ (List.mem_of_getElem? (i := 39) rfl)) (ty := (.object "com/example/menshen/menshen/core/Subject$Kind")) (by decide) rfl rfl (g := (mkF m 47 #[.val (.ref a1), .val (.ref a2), .val (.ref a3)] [(.ref a2), (.ref a1)])) rfl rfl (hb hby d10_47)
  refine Go.step st8 ?_
  have N8 := Fr.snoc X8 N6 g_a1
  have E_a1_8 := E_a1_5.wr W8
  have F_id_a1_8 := F_id_a1_5.other W8 (Or.inr (slot_ne (Or.inr (hw _ (List.mem_of_getElem? (i := 66) rfl))) (Or.inr (hw _ (List.mem_of_getElem? (i := 64) rfl))) (by decide) (t := (.object "java/lang/String")) (t' := (.object "com/example/menshen/menshen/core/Subject$Kind")) (by decide) (by decide)))
  have O8 := O5.wr W8 g_a1
  have Z8 := Nat.le_trans Z5 (Keep.of_wr W8).1
  have hk8 := Nat.le_trans hq5 (Keep.of_wr W8).1
  have KK8 : Keep h0 h8 [a1] := KK5.wr W8 (Or.inl (by simp))
  clear E_a1_5 F_id_a1_5 O5 Z5 KK5
  have F_kind_a1_8 := F_kind_a1_5.same W8
  show Go p e below _ (T8.setTop (mkF m 50 #[.val (.ref a1), .val (.ref a2), .val (.ref a3)] []))
  refine Go.step (fun t k => XS.aloadN X8.here hx rfl (hb hby d10_50) rfl rfl k) ?_
  show Go p e below _ (T8.setTop (mkF m 51 #[.val (.ref a1), .val (.ref a2), .val (.ref a3)] [(.ref a1)]))
  refine Go.step (fun t k => XS.aloadN X8.here hx rfl (hb hby d10_51) rfl rfl k) ?_
  show Go p e below _ (T8.setTop (mkF m 52 #[.val (.ref a1), .val (.ref a2), .val (.ref a3)] [(.ref a3), (.ref a1)]))
  obtain ⟨T9, h9, X9, e9, W9, st9⟩ := putF X8 hx hZ hown (host := "") (Or.inl (hw _ (List.mem_of_getElem? (i := 65) rfl))) Via.refl e8 F_id_a1_8 E_a1_8 (Or.inr ⟨(hw _ (List.mem_of_getElem? (i := 66) rfl)), rfl, hnm⟩) (hw _ (List.mem_of_getElem? (i := 39) rfl)) (ty := (.object "java/lang/String")) (by decide) rfl rfl (g := (mkF m 52 #[.val (.ref a1), .val (.ref a2), .val (.ref a3)] [(.ref a3), (.ref a1)])) rfl rfl (hb hby d10_52)
  refine Go.step st9 ?_
  have N9 := Fr.snoc X9 N8 g_a1
  have E_a1_9 := E_a1_8.wr W9
  have F_kind_a1_9 := F_kind_a1_8.other W9 (Or.inr (slot_ne (Or.inr (hw _ (List.mem_of_getElem? (i := 64) rfl))) (Or.inr (hw _ (List.mem_of_getElem? (i := 66) rfl))) (by decide) (t := (.object "com/example/menshen/menshen/core/Subject$Kind")) (t' := (.object "java/lang/String")) (by decide) (by decide)))
  have O9 := O8.wr W9 g_a1
  have Z9 := Nat.le_trans Z8 (Keep.of_wr W9).1
  have hk9 := Nat.le_trans hk8 (Keep.of_wr W9).1
  have KK9 : Keep h0 h9 [a1] := KK8.wr W9 (Or.inl (by simp))
  clear E_a1_8 F_kind_a1_8 O8 Z8 KK8
  have F_id_a1_9 := F_id_a1_8.same W9
  show Go p e below _ (T9.setTop (mkF m 55 #[.val (.ref a1), .val (.ref a2), .val (.ref a3)] []))
  refine retWV X9 hx hS5 (by rw [e9]; exact hk9) Bd.notSynchronized Bd.returns (hb hby d10_55) ?_ (by decide) (by decide)
  show Q10 Z a1 a2 a3 u_kind_a1 u_id_a1 oV h0 n0 _ T9.heap _
  rw [e9]
  exact ⟨rfl, N9, KK9, E_a1_9, F_kind_a1_9, F_id_a1_9⟩
theorem d8_0 : decode prog_28_method_2_code 0 = .ok (.new 29, 3) := by decide +kernel
theorem d8_3 : decode prog_28_method_2_code 3 = .ok (.dup, 1) := by decide +kernel
theorem d8_4 : decode prog_28_method_2_code 4 = .ok (.getstatic 36, 3) := by decide +kernel
theorem d8_7 : decode prog_28_method_2_code 7 = .ok (.aload_n 0, 1) := by decide +kernel
theorem d8_8 : decode prog_28_method_2_code 8 = .ok (.ldc 39, 2) := by decide +kernel
theorem d8_10 : decode prog_28_method_2_code 10 = .ok (.invokestatic 9, 3) := by decide +kernel
theorem d8_13 : decode prog_28_method_2_code 13 = .ok (.checkcast 40, 3) := by decide +kernel
theorem d8_16 : decode prog_28_method_2_code 16 = .ok (.invokespecial 42, 3) := by decide +kernel
theorem pd_7 : parseMethodDescriptor "(Lcom/example/menshen/menshen/core/Subject$Kind;Ljava/lang/String;)V" = some ⟨[(.object "com/example/menshen/menshen/core/Subject$Kind"), (.object "java/lang/String")], none⟩ := by decide +kernel
theorem d8_19 : decode prog_28_method_2_code 19 = .ok (.areturn, 1) := by decide +kernel
theorem ef_8 (m : MethodId) (a1 : Addr) : entryFrame m #[(.ref a1)] 1 = mkF m 0 #[.val (.ref a1)] [] := by first | (simp [entryFrame, mkF, argsToLocals, Value.category]; done) | rfl
def Q8 (Z : State) (a1 : Addr) (oU : Addr) (oV : Addr) (h0 : Heap) (n0 : Nat) (v : Option Value) (h : Heap) (L : List Loc) : Prop := ∃ (b2 : Addr), v = some (.ref b2) ∧ Fr n0 L ∧ Keep h0 h [] ∧ h0.size ≤ b2 ∧ Exa Z h b2 "com/example/menshen/menshen/core/Subject" ∧ Fld Z h b2 "com/example/menshen/menshen/core/Subject" "kind" "Lcom/example/menshen/menshen/core/Subject$Kind;" (.ref oU) ∧ Fld Z h b2 "com/example/menshen/menshen/core/Subject" "id" "Ljava/lang/String;" (.ref a1)
set_option maxRecDepth 65536 in
set_option maxHeartbeats 40000000 in
theorem rm8 (l : Launch) (Z : State) (a0 : Array Value) (hw : ∀ d ∈ tables_1, d.before a0 Z = true) (ws : List Jvm.Cond) (a1 : Addr) (oU : Addr) (oV : Addr) (h0 : Heap) (n0 : Nat) (Z0 : n0 ≤ h0.size) (hO : Old Z n0 h0) (E_a1 : Exa Z h0 a1 "java/lang/String") (S_USER : Sta Z Z.heap "com/example/menshen/menshen/core/Subject$Kind" "USER" "Lcom/example/menshen/menshen/core/Subject$Kind;" (.ref oU)) (S_EVERYONE : Sta Z Z.heap "com/example/menshen/menshen/core/Subject$Kind" "EVERYONE" "Lcom/example/menshen/menshen/core/Subject$Kind;" (.ref oV)) (hne_oU_oV : oU ≠ oV) :
    MetFree l (⟨"com/example/menshen/menshen/core/Subject", "user", "(Ljava/lang/String;)Lcom/example/menshen/menshen/core/Subject;"⟩ : MethodName) (head1 (Jvm.Cond.code (⟨"com/example/menshen/menshen/core/Subject", "user", "(Ljava/lang/String;)Lcom/example/menshen/menshen/core/Subject;"⟩ : MethodName) prog_28_method_2_code 1 (some (.object "com/example/menshen/menshen/core/Subject")) :: ws) ({ frames := 3, cells := 5, slots := 34, locals := 39 } : Room)) (fun a U => a = #[(.ref a1)] ∧ Z.Warmed39 U.vm ∧ U.heap = h0) (fun _ _ _ _ _ => True) (fun _ U o U' => ∃ v L, o = .returned v ∧ Q8 Z a1 oU oV h0 n0 v U'.heap L ∧ ReturnedEndW U o U' L ({ frames := 3, cells := 5, slots := 34, locals := 39 } : Room).cells ({ frames := 3, cells := 5, slots := 34, locals := 39 } : Room).slots) := by
  refine MetFree.of_bodySF (plainFor_of_name pn_5) hisR ?_
  intro p e s m args below meth c s₁ Bd hml0 hP hK
  obtain ⟨rfl, hZ, hh⟩ := hP
  have hx := Bd.exec
  have hby := Bd.bytes
  have hml : c.maxLocals = 1 := hml0
  have hown : s.vm.findClass "com/example/menshen/menshen/core/Subject" = some m.cls := findClass_of_methodNamed Bd.named
  have hnm := (name_of_methodNamed Bd.named Bd.method).1
  have X0 : Stand p l e ({ frames := 3, cells := 5, slots := 34, locals := 39 } : Room) s m #[(.ref a1)] below meth c s₁ [] 0 0 := Stand.of_body Bd
  have e0 : s₁.heap = h0 := by rw [← hh, Bd.state]; rfl
  have N0 := Fr.nil n0
  refine Go.doneW (Go.step (fun t k => castTop (ef_8 m a1) k) ?_)
  have hS0 : s.Since s.vm h0.size := (State.WarmedH.refl s).since _
  have hk0 : h0.size ≤ h0.size := Nat.le_refl _
  replace X0 : Stand p l e ({ frames := 3, cells := 5, slots := 34, locals := 39 } : Room) (s.setVm s.vm) m #[(.ref a1)] below meth c s₁ [] 0 0 := X0
  replace hZ : Z.Warmed39 (s.setVm s.vm).vm := hZ
  replace hown : (s.setVm s.vm).vm.findClass "com/example/menshen/menshen/core/Subject" = some m.cls := hown
  have KK0 : Keep h0 h0 [] := Keep.refl _ _
  show Go p e below _ (s₁.setTop (mkF m 0 #[.val (.ref a1)] []))
  obtain ⟨T2, h2, X2, e2, E2, A2, D2, -, st2⟩ := newO X0 hx hZ hown (hw _ (List.mem_of_getElem? (i := 38) rfl)) (hw _ (List.mem_of_getElem? (i := 39) rfl)) (hw _ (List.mem_of_getElem? (i := 36) rfl)) e0 (g := (mkF m 0 #[.val (.ref a1)] [])) rfl (hb hby d8_0) (by decide) (by decide)
  obtain ⟨b2, g2⟩ : ∃ z, z = h0.size := ⟨_, rfl⟩
  rw [← g2] at A2 D2 st2
  have g_b2 : n0 ≤ b2 := Nat.le_trans Z0 (Nat.le_of_eq g2.symm)
  have sz_b2 : h0.size ≤ b2 := Nat.le_trans KK0.1 (Nat.le_of_eq g2.symm)
  have ne_a1_b2 : a1 ≠ b2 := Nat.ne_of_lt (Nat.lt_of_lt_of_le E_a1.lt (Nat.le_of_eq g2.symm))
  refine Go.step st2 ?_
  have E_a1_2 := E_a1.ext E2
  have O2 := hO.ext E2
  have Z2 := Nat.le_trans Z0 E2.1
  have hk2 := Nat.le_trans hk0 E2.1
  have KK2 : Keep h0 h2 [] := KK0.ext E2
  clear E_a1 hO Z0 KK0 E2
  have F_kind_b2 : Fld Z h2 b2 "com/example/menshen/menshen/core/Subject" "kind" "Lcom/example/menshen/menshen/core/Subject$Kind;" .null := D2 (Or.inr (hw _ (List.mem_of_getElem? (i := 64) rfl))) (ty := (.object "com/example/menshen/menshen/core/Subject$Kind")) (by decide)
  have F_id_b2 : Fld Z h2 b2 "com/example/menshen/menshen/core/Subject" "id" "Ljava/lang/String;" .null := D2 (Or.inr (hw _ (List.mem_of_getElem? (i := 66) rfl))) (ty := (.object "java/lang/String")) (by decide)
  replace X2 : Stand p l e ({ frames := 3, cells := 5, slots := 34, locals := 39 } : Room) (s.setVm s.vm) m #[(.ref a1)] below meth c T2 _ 1 2 := X2
  show Go p e below _ (T2.setTop (mkF m 3 #[.val (.ref a1)] [(.ref b2)]))
  refine Go.step (fun t k => XS.dup X2.here hx rfl (hb hby d8_3) rfl rfl k) ?_
  show Go p e below _ (T2.setTop (mkF m 4 #[.val (.ref a1)] [(.ref b2), (.ref b2)]))
  obtain ⟨T3, X3, e3, st3⟩ := getS2 X2 hx hZ hown (host := "") (Or.inl (hw _ (List.mem_of_getElem? (i := 40) rfl))) Via.refl e2 (S_USER.ext O2.2) (g := (mkF m 4 #[.val (.ref a1)] [(.ref b2), (.ref b2)])) rfl (hb hby d8_4)
  refine Go.step st3 ?_
  show Go p e below _ (T3.setTop (mkF m 7 #[.val (.ref a1)] [(.ref oU), (.ref b2), (.ref b2)]))
  refine Go.step (fun t k => XS.aloadN X3.here hx rfl (hb hby d8_7) rfl rfl k) ?_
  show Go p e below _ (T3.setTop (mkF m 8 #[.val (.ref a1)] [(.ref a1), (.ref oU), (.ref b2), (.ref b2)]))
  obtain ⟨lt4, T4, h4, k4, X4, e4, E4, hS4, hq4, hZ, hown, st4⟩ := ldcS X3 hx hZ hown (hw _ (List.mem_of_getElem? (i := 43) rfl)) (wS hw) e3 hS0 hk2 (g := (mkF m 8 #[.val (.ref a1)] [(.ref a1), (.ref oU), (.ref b2), (.ref b2)])) rfl (hb hby d8_8) (n := 8) (by decide) (by decide) (by decide) (by decide)
  refine Go.step st4 ?_
  have E_a1_4 := E_a1_2.ext E4
  have E_b2_4 := A2.ext E4
  have F_kind_b2_4 := F_kind_b2.ext E4
  have F_id_b2_4 := F_id_b2.ext E4
  have O4 := O2.ext E4
  have Z4 := Nat.le_trans Z2 E4.1
  have KK4 : Keep h0 h4 [] := KK2.ext E4
  clear E_a1_2 A2 F_kind_b2 F_id_b2 O2 Z2 KK2 E4
  replace X4 : Stand p l e ({ frames := 3, cells := 5, slots := 34, locals := 39 } : Room) (s.setVm T4.vm) m #[(.ref a1)] below meth c T4 _ 3 14 := X4
  show Go p e below _ (T4.setTop (mkF m 10 #[.val (.ref a1)] [(.ref lt4), (.ref a1), (.ref oU), (.ref b2), (.ref b2)]))
  obtain ⟨_, _, ⟨T5, L5, k5, n5⟩, -, X5, ⟨Lc5, hQ5, l5, y5, z5⟩, st5⟩ := Jvm.LawKit.callS X4 hx (y := (⟨"java/util/Objects", "requireNonNull", "(Ljava/lang/Object;Ljava/lang/String;)Ljava/lang/Object;"⟩ : MethodName)) hown (mvT hZ (hw _ (List.mem_of_getElem? (i := 46) rfl))) (mvT hZ (hw _ (List.mem_of_getElem? (i := 47) rfl))) (mvT hZ (hw _ (List.mem_of_getElem? (i := 48) rfl))) (mvT hZ (hw _ (List.mem_of_getElem? (i := 49) rfl))) (by decide) (backOf (W := 3) (rm9 l Z a0 hw [] a1 lt4 h4 n0 Z4) hZ (hw _ (List.mem_of_getElem? (i := 49) rfl)) (hw _ (List.mem_of_getElem? (i := 48) rfl)) (by decide) (by decide)) (g := (mkF m 10 #[.val (.ref a1)] [(.ref lt4), (.ref a1), (.ref oU), (.ref b2), (.ref b2)])) rfl (by rw [hml]; rfl) (argsL := [(.ref a1), (.ref lt4)]) (rest := [(.ref oU), (.ref b2), (.ref b2)]) (lenOf pd_6 rfl) rfl (by show 2 * 0 + _ ≤ _; exact Nat.le_of_eq rfl) (hb hby d8_10) (fun _ _ => ⟨rfl, e4, (by decide : 3 + 0 ≤ _), (by decide : 14 + 0 ≤ _)⟩)
  dsimp only [Pt.U, Pt.locs, Pt.cells, Pt.slots] at X5 l5 y5 z5 st5 hQ5
  replace y5 : k5 = 3 := y5
  replace z5 : n5 = 14 := z5
  subst y5 z5
  obtain ⟨rfl, N5q, e5⟩ := hQ5
  have N5 : Fr n0 L5 := Eq.mpr (congrArg (Fr n0) l5) (Fr.app N0 N5q)
  refine Go.step st5 ?_
  show Go p e below _ (T5.setTop (mkF m 13 #[.val (.ref a1)] [(.ref a1), (.ref oU), (.ref b2), (.ref b2)]))
  obtain ⟨T6, X6, e6, st6⟩ := castY X5 hx hZ hown (hw _ (List.mem_of_getElem? (i := 50) rfl)) e5 (Ins.self E_a1_4) (g := (mkF m 13 #[.val (.ref a1)] [(.ref a1), (.ref oU), (.ref b2), (.ref b2)])) rfl rfl (hb hby d8_13)
  refine Go.step st6 ?_
  show Go p e below _ (T6.setTop (mkF m 16 #[.val (.ref a1)] [(.ref a1), (.ref oU), (.ref b2), (.ref b2)]))
  obtain ⟨_, _, ⟨T7, L7, k7, n7⟩, -, X7, sn7, gr7, ⟨Lc7, hQ7, l7, y7, z7⟩, st7⟩ := X6.specialBackS hx (y := (⟨"com/example/menshen/menshen/core/Subject", "<init>", "(Lcom/example/menshen/menshen/core/Subject$Kind;Ljava/lang/String;)V"⟩ : MethodName)) rfl hown (mvT hZ (hw _ (List.mem_of_getElem? (i := 51) rfl))) (mvT hZ (hw _ (List.mem_of_getElem? (i := 52) rfl))) (mvT hZ (hw _ (List.mem_of_getElem? (i := 53) rfl))) (by decide) (backOfS (W := 1) (rm10 l Z a0 hw [] b2 oU a1 .null .null oV h4 n0 Z4 O4 E_b2_4 F_kind_b2_4 F_id_b2_4 S_EVERYONE hne_oU_oV g_b2) hZ (hw _ (List.mem_of_getElem? (i := 53) rfl)) (hw _ (List.mem_of_getElem? (i := 36) rfl)) (by decide) (by decide)) (g := (mkF m 16 #[.val (.ref a1)] [(.ref a1), (.ref oU), (.ref b2), (.ref b2)])) rfl (by rw [hml]; rfl) (Steps.refl _) (a := b2) (argsL := [(.ref oU), (.ref a1)]) (rest := [(.ref b2)]) (lenOf pd_7 rfl) rfl (by show 2 * 0 + _ ≤ _; exact Nat.le_of_eq rfl) (hb hby d8_16) (fun _ _ => ⟨rfl, e6, (by decide : 3 + 2 ≤ _), (by decide : 14 + 20 ≤ _)⟩)
  dsimp only [Pt.U, Pt.locs, Pt.cells, Pt.slots] at X7 l7 y7 z7 st7 hQ7 sn7 gr7
  replace y7 : k7 = 5 := y7
  replace z7 : n7 = 34 := z7
  subst y7 z7
  obtain ⟨rfl, N7q, K7, Q7_0, Q7_1, Q7_2⟩ := hQ7
  have N7 : Fr n0 L7 := Eq.mpr (congrArg (Fr n0) l7) (Fr.app N5 N7q)
  have E_a1_7 := E_a1_4.keep K7
  have E_b2_7 := E_b2_4.keep K7
  have O7 := O4.keep K7 (allS g_b2 all0)
  have Z7 := Nat.le_trans Z4 K7.1
  have KK7 : Keep h0 T7.heap [] := KK4.trans K7 (allS (Or.inr sz_b2) all0)
  clear E_a1_4 E_b2_4 O4 Z4 KK4 K7
  obtain ⟨X7, hS7, hZ, hown⟩ := rebS hS4 (by rw [e6]; exact hq4) X7 sn7 gr7 hZ hown
  have hk7 : T7.heap.size ≤ T7.heap.size := Nat.le_refl _
  refine Go.trans st7 ?_
  show Go p e below _ (T7.setTop (mkF m 19 #[.val (.ref a1)] [(.ref b2)]))
  refine retWR X7 hx hS7 hk7 Bd.notSynchronized Bd.returns rfl rfl (hb hby d8_19) ?_ (by decide) (by decide)
  show Q8 Z a1 oU oV h0 n0 _ T7.heap _
  exact ⟨b2, rfl, N7, KK7, sz_b2, Q7_0, Q7_1, Q7_2⟩
theorem d12_0 : decode prog_28_method_7_code 0 = .ok (.aload_n 0, 1) := by decide +kernel
theorem d12_1 : decode prog_28_method_7_code 1 = .ok (.getfield 28, 3) := by decide +kernel
theorem d12_4 : decode prog_28_method_7_code 4 = .ok (.areturn, 1) := by decide +kernel
theorem ef_12 (m : MethodId) (a1 : Addr) : entryFrame m #[(.ref a1)] 1 = mkF m 0 #[.val (.ref a1)] [] := by first | (simp [entryFrame, mkF, argsToLocals, Value.category]; done) | rfl
set_option maxRecDepth 65536 in
set_option maxHeartbeats 40000000 in
theorem rm12 (l : Launch) (Z : State) (a0 : Array Value) (hw : ∀ d ∈ tables_1, d.before a0 Z = true) (ws : List Jvm.Cond) (a1 : Addr) (o_kind_a1 : Addr) (h0 : Heap) (n0 : Nat) (Z0 : n0 ≤ h0.size) (F_kind_a1 : Fld Z h0 a1 "com/example/menshen/menshen/core/Subject" "kind" "Lcom/example/menshen/menshen/core/Subject$Kind;" (.ref o_kind_a1)) :
    MetFree l (⟨"com/example/menshen/menshen/core/Subject", "kind", "()Lcom/example/menshen/menshen/core/Subject$Kind;"⟩ : MethodName) (head1 (Jvm.Cond.code (⟨"com/example/menshen/menshen/core/Subject", "kind", "()Lcom/example/menshen/menshen/core/Subject$Kind;"⟩ : MethodName) prog_28_method_7_code 1 (some (.object "com/example/menshen/menshen/core/Subject$Kind")) :: ws) ({ frames := 0, cells := 0, slots := 0, locals := 0 } : Room)) (fun a U => a = #[(.ref a1)] ∧ Z.Warmed39 U.vm ∧ U.heap = h0) (fun _ _ _ _ _ => True) (fun _ U o U' => ∃ v L, o = .returned v ∧ QP (.ref o_kind_a1) h0 n0 v U'.heap L ∧ FrameEnd U o U' L ({ frames := 0, cells := 0, slots := 0, locals := 0 } : Room).cells ({ frames := 0, cells := 0, slots := 0, locals := 0 } : Room).slots) := by
  refine MetFree.of_bodySF (plainFor_of_name pn_5) hisR ?_
  intro p e s m args below meth c s₁ Bd hml0 hP hK
  obtain ⟨rfl, hZ, hh⟩ := hP
  have hx := Bd.exec
  have hby := Bd.bytes
  have hml : c.maxLocals = 1 := hml0
  have hown : s.vm.findClass "com/example/menshen/menshen/core/Subject" = some m.cls := findClass_of_methodNamed Bd.named
  have hnm := (name_of_methodNamed Bd.named Bd.method).1
  have X0 : Stand p l e ({ frames := 0, cells := 0, slots := 0, locals := 0 } : Room) s m #[(.ref a1)] below meth c s₁ [] 0 0 := Stand.of_body Bd
  have e0 : s₁.heap = h0 := by rw [← hh, Bd.state]; rfl
  have N0 := Fr.nil n0
  refine Go.done (Go.step (fun t k => castTop (ef_12 m a1) k) ?_)
  have KK0 : Keep h0 h0 [] := Keep.refl _ _
  show Go p e below _ (s₁.setTop (mkF m 0 #[.val (.ref a1)] []))
  refine Go.step (fun t k => XS.aloadN X0.here hx rfl (hb hby d12_0) rfl rfl k) ?_
  show Go p e below _ (s₁.setTop (mkF m 1 #[.val (.ref a1)] [(.ref a1)]))
  obtain ⟨T2, X2, e2, st2⟩ := getF X0 hx hZ hown (host := "") (Or.inl (hw _ (List.mem_of_getElem? (i := 63) rfl))) Via.refl e0 F_kind_a1 (g := (mkF m 1 #[.val (.ref a1)] [(.ref a1)])) rfl rfl (hb hby d12_1)
  refine Go.step st2 ?_
  show Go p e below _ (T2.setTop (mkF m 4 #[.val (.ref a1)] [(.ref o_kind_a1)]))
  exact retGR X2 hx Bd.notSynchronized Bd.returns rfl rfl (hb hby d12_4) ⟨rfl, N0, e2⟩ (by decide) (by decide)
theorem d13_0 : decode prog_28_method_8_code 0 = .ok (.aload_n 0, 1) := by decide +kernel
theorem d13_1 : decode prog_28_method_8_code 1 = .ok (.getfield 32, 3) := by decide +kernel
theorem d13_4 : decode prog_28_method_8_code 4 = .ok (.areturn, 1) := by decide +kernel
theorem ef_13 (m : MethodId) (a1 : Addr) : entryFrame m #[(.ref a1)] 1 = mkF m 0 #[.val (.ref a1)] [] := by first | (simp [entryFrame, mkF, argsToLocals, Value.category]; done) | rfl
set_option maxRecDepth 65536 in
set_option maxHeartbeats 40000000 in
theorem rm13 (l : Launch) (Z : State) (a0 : Array Value) (hw : ∀ d ∈ tables_1, d.before a0 Z = true) (ws : List Jvm.Cond) (a1 : Addr) (o_id_a1 : Addr) (h0 : Heap) (n0 : Nat) (Z0 : n0 ≤ h0.size) (F_id_a1 : Fld Z h0 a1 "com/example/menshen/menshen/core/Subject" "id" "Ljava/lang/String;" (.ref o_id_a1)) :
    MetFree l (⟨"com/example/menshen/menshen/core/Subject", "id", "()Ljava/lang/String;"⟩ : MethodName) (head1 (Jvm.Cond.code (⟨"com/example/menshen/menshen/core/Subject", "id", "()Ljava/lang/String;"⟩ : MethodName) prog_28_method_8_code 1 (some (.object "java/lang/String")) :: ws) ({ frames := 0, cells := 0, slots := 0, locals := 0 } : Room)) (fun a U => a = #[(.ref a1)] ∧ Z.Warmed39 U.vm ∧ U.heap = h0) (fun _ _ _ _ _ => True) (fun _ U o U' => ∃ v L, o = .returned v ∧ QP (.ref o_id_a1) h0 n0 v U'.heap L ∧ FrameEnd U o U' L ({ frames := 0, cells := 0, slots := 0, locals := 0 } : Room).cells ({ frames := 0, cells := 0, slots := 0, locals := 0 } : Room).slots) := by
  refine MetFree.of_bodySF (plainFor_of_name pn_5) hisR ?_
  intro p e s m args below meth c s₁ Bd hml0 hP hK
  obtain ⟨rfl, hZ, hh⟩ := hP
  have hx := Bd.exec
  have hby := Bd.bytes
  have hml : c.maxLocals = 1 := hml0
  have hown : s.vm.findClass "com/example/menshen/menshen/core/Subject" = some m.cls := findClass_of_methodNamed Bd.named
  have hnm := (name_of_methodNamed Bd.named Bd.method).1
  have X0 : Stand p l e ({ frames := 0, cells := 0, slots := 0, locals := 0 } : Room) s m #[(.ref a1)] below meth c s₁ [] 0 0 := Stand.of_body Bd
  have e0 : s₁.heap = h0 := by rw [← hh, Bd.state]; rfl
  have N0 := Fr.nil n0
  refine Go.done (Go.step (fun t k => castTop (ef_13 m a1) k) ?_)
  have KK0 : Keep h0 h0 [] := Keep.refl _ _
  show Go p e below _ (s₁.setTop (mkF m 0 #[.val (.ref a1)] []))
  refine Go.step (fun t k => XS.aloadN X0.here hx rfl (hb hby d13_0) rfl rfl k) ?_
  show Go p e below _ (s₁.setTop (mkF m 1 #[.val (.ref a1)] [(.ref a1)]))
  obtain ⟨T2, X2, e2, st2⟩ := getF X0 hx hZ hown (host := "") (Or.inl (hw _ (List.mem_of_getElem? (i := 65) rfl))) Via.refl e0 F_id_a1 (g := (mkF m 1 #[.val (.ref a1)] [(.ref a1)])) rfl rfl (hb hby d13_1)
  refine Go.step st2 ?_
  show Go p e below _ (T2.setTop (mkF m 4 #[.val (.ref a1)] [(.ref o_id_a1)]))
  exact retGR X2 hx Bd.notSynchronized Bd.returns rfl rfl (hb hby d13_4) ⟨rfl, N0, e2⟩ (by decide) (by decide)
theorem pd_8 : parseMethodDescriptor "(IIII)Ljava/lang/String;" = some ⟨[.int, .int, .int, .int], some (.object "java/lang/String")⟩ := by decide +kernel
theorem pd_9 : parseMethodDescriptor "(Ljava/lang/String;)Lcom/example/menshen/menshen/core/Subject;" = some ⟨[(.object "java/lang/String")], some (.object "com/example/menshen/menshen/core/Subject")⟩ := by decide +kernel
theorem pd_10 : parseMethodDescriptor "()Lcom/example/menshen/menshen/core/Subject$Kind;" = some ⟨[], some (.object "com/example/menshen/menshen/core/Subject$Kind")⟩ := by decide +kernel
theorem pd_11 : parseMethodDescriptor "()Ljava/lang/String;" = some ⟨[], some (.object "java/lang/String")⟩ := by decide +kernel
theorem ef_0 (m : MethodId) (p1 : Int32) (p2 : Int32) (p3 : Int32) (p4 : Int32) : entryFrame m #[(.int p1), (.int p2), (.int p3), (.int p4)] maxLocals = mkF m 0 #[.val (.int p1), .val (.int p2), .val (.int p3), .val (.int p4), .unset, .unset] [] := by first | (simp [entryFrame, mkF, argsToLocals, Value.category, maxLocals]; done) | rfl
def f0 (p1 : Int32) (p2 : Int32) (p3 : Int32) (p4 : Int32) (wC : Int32) : Int32 := (1 : Int32)
set_option maxRecDepth 65536 in
set_option maxHeartbeats 40000000 in
theorem rm0 (l : Launch) (Z : State) (a0 : Array Value) (hw : ∀ d ∈ tables_1, d.before a0 Z = true) (ws : List Jvm.Cond) (p1 : Int32) (p2 : Int32) (p3 : Int32) (p4 : Int32) (oU : Addr) (oV : Addr) (wC : Int32) (h0 : Heap) (n0 : Nat) (Z0 : n0 ≤ h0.size) (hh0 : Jvm.Lit.constHeld Z "java/lang/String" 7) (hcw : Jvm.Lit.compactW.before a0 Z = true) (hO : Old Z n0 h0) (S_USER : Sta Z Z.heap "com/example/menshen/menshen/core/Subject$Kind" "USER" "Lcom/example/menshen/menshen/core/Subject$Kind;" (.ref oU)) (S_EVERYONE : Sta Z Z.heap "com/example/menshen/menshen/core/Subject$Kind" "EVERYONE" "Lcom/example/menshen/menshen/core/Subject$Kind;" (.ref oV)) (hne_oU_oV : oU ≠ oV) (hC : ¬ (wC = (0 : Int32))) (S_COMPACT_STRINGS : Sta Z Z.heap "java/lang/String" "COMPACT_STRINGS" "Z" (.int wC)) :
    MetFree l x (head1 (Jvm.Cond.code x code maxLocals ret :: ws) room_1) (fun a U => a = #[(.int p1), (.int p2), (.int p3), (.int p4)] ∧ Z.Warmed39 U.vm ∧ U.heap = h0 ∧ IB Z U.vm []) (fun _ _ _ _ _ => True) (fun _ U o U' => ∃ v L, o = .returned v ∧ QL (.int (f0 p1 p2 p3 p4 wC)) n0 v U'.heap L ∧ ReturnedEndW U o U' L room_1.cells room_1.slots) := by
  refine MetFree.of_bodySF (plainFor_of_name pn_2) hisR ?_
  intro p e s m args below meth c s₁ Bd hml0 hP hK
  obtain ⟨rfl, hZ, hh, hI⟩ := hP
  have hx := Bd.exec
  have hby := Bd.bytes
  have hml : c.maxLocals = 6 := hml0
  have hown : s.vm.findClass "com/example/menshen/menshen/core/SubjectUserPinLaw" = some m.cls := findClass_of_methodNamed Bd.named
  have hnm := (name_of_methodNamed Bd.named Bd.method).1
  have X0 : Stand p l e room_1 s m #[(.int p1), (.int p2), (.int p3), (.int p4)] below meth c s₁ [] 0 0 := Stand.of_body Bd
  have e0 : s₁.heap = h0 := by rw [← hh, Bd.state]; rfl
  have N0 := Fr.nil n0
  refine Go.doneW (Go.step (fun t k => castTop (ef_0 m p1 p2 p3 p4) k) ?_)
  have hS0 : s.Since s.vm h0.size := (State.WarmedH.refl s).since _
  have hk0 : h0.size ≤ h0.size := Nat.le_refl _
  replace X0 : Stand p l e room_1 (s.setVm s.vm) m #[(.int p1), (.int p2), (.int p3), (.int p4)] below meth c s₁ [] 0 0 := X0
  replace hZ : Z.Warmed39 (s.setVm s.vm).vm := hZ
  replace hown : (s.setVm s.vm).vm.findClass "com/example/menshen/menshen/core/SubjectUserPinLaw" = some m.cls := hown
  have KK0 : Keep h0 h0 [] := Keep.refl _ _
  show Go p e below _ (s₁.setTop (mkF m 0 #[.val (.int p1), .val (.int p2), .val (.int p3), .val (.int p4), .unset, .unset] []))
  refine Go.step (fun t k => XS.iloadN X0.here hx rfl (hb hby at_0) rfl k) ?_
  show Go p e below _ (s₁.setTop (mkF m 1 #[.val (.int p1), .val (.int p2), .val (.int p3), .val (.int p4), .unset, .unset] [(.int p4)]))
  refine Go.step (fun t k => XS.iconst X0.here hx rfl (hb hby at_1)  k) ?_
  show Go p e below _ (s₁.setTop (mkF m 2 #[.val (.int p1), .val (.int p2), .val (.int p3), .val (.int p4), .unset, .unset] [(.int (3 : Int32)), (.int p4)]))
  refine Go.step (fun t k => XS.iand X0.here hx rfl (hb hby at_2) rfl k) ?_
  show Go p e below _ (s₁.setTop (mkF m 3 #[.val (.int p1), .val (.int p2), .val (.int p3), .val (.int p4), .unset, .unset] [(.int (p4 &&& (3 : Int32)))]))
  by_cases hc5 : (p4 &&& (3 : Int32)) = (0 : Int32)
  · rw [hc5]
    show Go p e below _ (s₁.setTop (mkF m 3 #[.val (.int p1), .val (.int p2), .val (.int p3), .val (.int p4), .unset, .unset] [(.int (0 : Int32))]))
    refine Go.step (fun t k => XS.iloadN X0.here hx rfl (hb hby at_3) rfl k) ?_
    show Go p e below _ (s₁.setTop (mkF m 4 #[.val (.int p1), .val (.int p2), .val (.int p3), .val (.int p4), .unset, .unset] [(.int p1), (.int (0 : Int32))]))
    refine Go.step (fun t k => XS.iloadN X0.here hx rfl (hb hby at_4) rfl k) ?_
    show Go p e below _ (s₁.setTop (mkF m 5 #[.val (.int p1), .val (.int p2), .val (.int p3), .val (.int p4), .unset, .unset] [(.int p2), (.int p1), (.int (0 : Int32))]))
    refine Go.step (fun t k => XS.iloadN X0.here hx rfl (hb hby at_5) rfl k) ?_
    show Go p e below _ (s₁.setTop (mkF m 6 #[.val (.int p1), .val (.int p2), .val (.int p3), .val (.int p4), .unset, .unset] [(.int p3), (.int p2), (.int p1), (.int (0 : Int32))]))
    obtain ⟨_, _, ⟨T6, L6, k6, n6⟩, -, X6, sn6, gr6, ⟨Lc6, hQ6, l6, y6, z6⟩, st6⟩ := callSS X0 hx (y := (⟨"com/example/menshen/menshen/core/SubjectUserPinLaw", "draw", "(IIII)Ljava/lang/String;"⟩ : MethodName)) hown (mvT hZ (hw _ (List.mem_of_getElem? (i := 0) rfl))) (mvT hZ (hw _ (List.mem_of_getElem? (i := 1) rfl))) (mvT hZ (hw _ (List.mem_of_getElem? (i := 2) rfl))) (mvT hZ (hw _ (List.mem_of_getElem? (i := 3) rfl))) (by decide) (backOfSI (W := 0) (rm1_0 l Z a0 hw [] p1 p2 p3 h0 n0 Z0 (hh0 : Jvm.Lit.constHeld Z "java/lang/String" 7) (hcw : Jvm.Lit.compactW.before a0 Z = true) hO) hZ hI (hw _ (List.mem_of_getElem? (i := 3) rfl)) (hw _ (List.mem_of_getElem? (i := 2) rfl)) (by decide) (by decide)) (g := (mkF m 6 #[.val (.int p1), .val (.int p2), .val (.int p3), .val (.int p4), .unset, .unset] [(.int p3), (.int p2), (.int p1), (.int (0 : Int32))])) rfl (by rw [hml]; rfl) (argsL := [(.int (0 : Int32)), (.int p1), (.int p2), (.int p3)]) (rest := []) (lenOf pd_8 rfl) rfl (by show 2 * 0 + _ ≤ _; exact Nat.le_of_eq rfl) (hb hby at_6) (fun _ _ => ⟨rfl, e0, (by decide : 0 + 4 ≤ _), (by decide : 0 + 8 ≤ _)⟩)
    dsimp only [Pt.U, Pt.locs, Pt.cells, Pt.slots] at X6 l6 y6 z6 st6 hQ6 sn6 gr6
    replace y6 : k6 = 4 := y6
    replace z6 : n6 = 8 := z6
    subst y6 z6
    obtain ⟨b6_0, rfl, N6q, K6, sz6_0, Q6_0, Q6_1⟩ := hQ6
    have N6 : Fr n0 L6 := Eq.mpr (congrArg (Fr n0) l6) (Fr.app N0 N6q)
    have g_b6_0 : n0 ≤ b6_0 := Nat.le_trans Z0 sz6_0
    have sz_b6_0 : h0.size ≤ b6_0 := Nat.le_trans KK0.1 sz6_0
    have O6 := hO.keep K6 all0
    have Z6 := Nat.le_trans Z0 K6.1
    have KK6 : Keep h0 T6.heap [] := KK0.trans K6 all0
    clear hO Z0 KK0 K6
    obtain ⟨X6, hS6, hZ, hown⟩ := rebS hS0 (by rw [e0]; exact hk0) X6 sn6 gr6 hZ hown
    have hk6 : T6.heap.size ≤ T6.heap.size := Nat.le_refl _
    refine Go.trans st6 ?_
    show Go p e below _ (T6.setTop (mkF m 9 #[.val (.int p1), .val (.int p2), .val (.int p3), .val (.int p4), .unset, .unset] [(.ref b6_0)]))
    refine Go.step (fun t k => XS.astore X6.here hx rfl (hb hby at_9) rfl rfl (l' := #[.val (.int p1), .val (.int p2), .val (.int p3), .val (.int p4), .val (.ref b6_0), .unset]) rfl k) ?_
    show Go p e below _ (T6.setTop (mkF m 11 #[.val (.int p1), .val (.int p2), .val (.int p3), .val (.int p4), .val (.ref b6_0), .unset] []))
    refine Go.step (fun t k => XS.aload X6.here hx rfl (hb hby at_11) rfl rfl k) ?_
    show Go p e below _ (T6.setTop (mkF m 13 #[.val (.int p1), .val (.int p2), .val (.int p3), .val (.int p4), .val (.ref b6_0), .unset] [(.ref b6_0)]))
    obtain ⟨_, _, ⟨T7, L7, k7, n7⟩, -, X7, sn7, gr7, ⟨Lc7, hQ7, l7, y7, z7⟩, st7⟩ := callSS X6 hx (y := (⟨"com/example/menshen/menshen/core/Subject", "user", "(Ljava/lang/String;)Lcom/example/menshen/menshen/core/Subject;"⟩ : MethodName)) hown (mvT hZ (hw _ (List.mem_of_getElem? (i := 34) rfl))) (mvT hZ (hw _ (List.mem_of_getElem? (i := 35) rfl))) (mvT hZ (hw _ (List.mem_of_getElem? (i := 36) rfl))) (mvT hZ (hw _ (List.mem_of_getElem? (i := 37) rfl))) (by decide) (backOfS (W := 0) (rm8 l Z a0 hw [] b6_0 oU oV T6.heap n0 Z6 O6 Q6_0 S_USER S_EVERYONE hne_oU_oV) hZ (hw _ (List.mem_of_getElem? (i := 37) rfl)) (hw _ (List.mem_of_getElem? (i := 36) rfl)) (by decide) (by decide)) (g := (mkF m 13 #[.val (.int p1), .val (.int p2), .val (.int p3), .val (.int p4), .val (.ref b6_0), .unset] [(.ref b6_0)])) rfl (by rw [hml]; rfl) (argsL := [(.ref b6_0)]) (rest := []) (lenOf pd_9 rfl) rfl (by show 2 * 0 + _ ≤ _; exact Nat.le_of_eq rfl) (hb hby at_13) (fun _ _ => ⟨rfl, rfl, (by decide : 4 + 5 ≤ _), (by decide : 8 + 34 ≤ _)⟩)
    dsimp only [Pt.U, Pt.locs, Pt.cells, Pt.slots] at X7 l7 y7 z7 st7 hQ7 sn7 gr7
    replace y7 : k7 = 9 := y7
    replace z7 : n7 = 42 := z7
    subst y7 z7
    obtain ⟨b7_0, rfl, N7q, K7, sz7_0, Q7_0, Q7_1, Q7_2⟩ := hQ7
    have N7 : Fr n0 L7 := Eq.mpr (congrArg (Fr n0) l7) (Fr.app N6 N7q)
    have g_b7_0 : n0 ≤ b7_0 := Nat.le_trans Z6 sz7_0
    have sz_b7_0 : h0.size ≤ b7_0 := Nat.le_trans KK6.1 sz7_0
    have ne_b6_0_b7_0 : b6_0 ≠ b7_0 := Nat.ne_of_lt (Nat.lt_of_lt_of_le Q6_0.lt sz7_0)
    have E_b6_0_7 := Q6_0.keep K7
    have F_coder_b6_0_7 := Q6_1.keep K7 nin0
    have O7 := O6.keep K7 all0
    have Z7 := Nat.le_trans Z6 K7.1
    have KK7 : Keep h0 T7.heap [] := KK6.trans K7 all0
    clear Q6_0 Q6_1 O6 Z6 KK6 K7
    obtain ⟨X7, hS7, hZ, hown⟩ := rebS hS6 hk6 X7 sn7 gr7 hZ hown
    have hk7 : T7.heap.size ≤ T7.heap.size := Nat.le_refl _
    refine Go.trans st7 ?_
    show Go p e below _ (T7.setTop (mkF m 16 #[.val (.int p1), .val (.int p2), .val (.int p3), .val (.int p4), .val (.ref b6_0), .unset] [(.ref b7_0)]))
    refine Go.step (fun t k => XS.astore X7.here hx rfl (hb hby at_16) rfl rfl (l' := #[.val (.int p1), .val (.int p2), .val (.int p3), .val (.int p4), .val (.ref b6_0), .val (.ref b7_0)]) rfl k) ?_
    show Go p e below _ (T7.setTop (mkF m 18 #[.val (.int p1), .val (.int p2), .val (.int p3), .val (.int p4), .val (.ref b6_0), .val (.ref b7_0)] []))
    refine Go.step (fun t k => XS.aload X7.here hx rfl (hb hby at_18) rfl rfl k) ?_
    show Go p e below _ (T7.setTop (mkF m 20 #[.val (.int p1), .val (.int p2), .val (.int p3), .val (.int p4), .val (.ref b6_0), .val (.ref b7_0)] [(.ref b7_0)]))
    obtain ⟨cq8, kq8, q8a, q8b, q8c⟩ := isOf hZ rfl Q7_0
    obtain ⟨_, _, ⟨T8, L8, k8, n8⟩, -, X8, ⟨Lc8, hQ8, l8, y8, z8⟩, st8⟩ := X7.virtualBack hx (y := (⟨"com/example/menshen/menshen/core/Subject", "kind", "()Lcom/example/menshen/menshen/core/Subject$Kind;"⟩ : MethodName)) (z := (⟨"com/example/menshen/menshen/core/Subject", "kind", "()Lcom/example/menshen/menshen/core/Subject$Kind;"⟩ : MethodName)) hown (mvT hZ (hw _ (List.mem_of_getElem? (i := 67) rfl))) (mvT hZ (hw _ (List.mem_of_getElem? (i := 68) rfl))) (notFace_of_selects (args := #[]) (mvT hZ (hw _ (List.mem_of_getElem? (i := 70) rfl)))) (mvT hZ (hw _ (List.mem_of_getElem? (i := 70) rfl))) (mvT hZ (hw _ (List.mem_of_getElem? (i := 69) rfl))) (by decide) (backOf (W := 0) (rm12 l Z a0 hw [] b7_0 oU T7.heap n0 Z7 Q7_1) hZ (hw _ (List.mem_of_getElem? (i := 71) rfl)) (hw _ (List.mem_of_getElem? (i := 36) rfl)) (by decide) (by decide)) q8a q8c (g := (mkF m 20 #[.val (.int p1), .val (.int p2), .val (.int p3), .val (.int p4), .val (.ref b6_0), .val (.ref b7_0)] [(.ref b7_0)])) rfl (by rw [hml]; rfl) (Steps.refl _) (argsL := []) (rest := []) (lenOf pd_10 rfl) rfl (by show 2 * 0 + _ ≤ _; exact Nat.le_of_eq rfl) (hb hby at_20) (fun _ _ => ⟨rfl, rfl, (by decide : 9 + 0 ≤ _), (by decide : 42 + 0 ≤ _)⟩)
    dsimp only [Pt.U, Pt.locs, Pt.cells, Pt.slots] at X8 l8 y8 z8 st8 hQ8
    replace y8 : k8 = 9 := y8
    replace z8 : n8 = 42 := z8
    subst y8 z8
    obtain ⟨rfl, N8q, e8⟩ := hQ8
    have N8 : Fr n0 L8 := Eq.mpr (congrArg (Fr n0) l8) (Fr.app N7 N8q)
    refine Go.trans st8 ?_
    show Go p e below _ (T8.setTop (mkF m 23 #[.val (.int p1), .val (.int p2), .val (.int p3), .val (.int p4), .val (.ref b6_0), .val (.ref b7_0)] [(.ref oU)]))
    obtain ⟨T9, X9, e9, st9⟩ := getS2 X8 hx hZ hown (host := "") (Or.inl (hw _ (List.mem_of_getElem? (i := 72) rfl))) Via.refl e8 (S_USER.ext O7.2) (g := (mkF m 23 #[.val (.int p1), .val (.int p2), .val (.int p3), .val (.int p4), .val (.ref b6_0), .val (.ref b7_0)] [(.ref oU)])) rfl (hb hby at_23)
    refine Go.step st9 ?_
    show Go p e below _ (T9.setTop (mkF m 26 #[.val (.int p1), .val (.int p2), .val (.int p3), .val (.int p4), .val (.ref b6_0), .val (.ref b7_0)] [(.ref oU), (.ref oU)]))
    refine Go.step (fun t k => Jvm.RoadKit.acmp (g := (mkF m 26 #[.val (.int p1), .val (.int p2), .val (.int p3), .val (.int p4), .val (.ref b6_0), .val (.ref b7_0)] [(.ref oU), (.ref oU)])) X9 hx rfl rfl rfl (pc0 := 26) (pc' := 29) (same := true) rfl (hb hby at_26) rfl (decide_eq_true rfl) (by decide) (by decide) k) ?_
    show Go p e below _ (T9.setTop (mkF m 29 #[.val (.int p1), .val (.int p2), .val (.int p3), .val (.int p4), .val (.ref b6_0), .val (.ref b7_0)] []))
    refine Go.step (fun t k => XS.aload X9.here hx rfl (hb hby at_29) rfl rfl k) ?_
    show Go p e below _ (T9.setTop (mkF m 31 #[.val (.int p1), .val (.int p2), .val (.int p3), .val (.int p4), .val (.ref b6_0), .val (.ref b7_0)] [(.ref b7_0)]))
    obtain ⟨cq10, kq10, q10a, q10b, q10c⟩ := isOf hZ e9 Q7_0
    obtain ⟨_, _, ⟨T10, L10, k10, n10⟩, -, X10, ⟨Lc10, hQ10, l10, y10, z10⟩, st10⟩ := X9.virtualBack hx (y := (⟨"com/example/menshen/menshen/core/Subject", "id", "()Ljava/lang/String;"⟩ : MethodName)) (z := (⟨"com/example/menshen/menshen/core/Subject", "id", "()Ljava/lang/String;"⟩ : MethodName)) hown (mvT hZ (hw _ (List.mem_of_getElem? (i := 73) rfl))) (mvT hZ (hw _ (List.mem_of_getElem? (i := 74) rfl))) (notFace_of_selects (args := #[]) (mvT hZ (hw _ (List.mem_of_getElem? (i := 76) rfl)))) (mvT hZ (hw _ (List.mem_of_getElem? (i := 76) rfl))) (mvT hZ (hw _ (List.mem_of_getElem? (i := 75) rfl))) (by decide) (backOf (W := 0) (rm13 l Z a0 hw [] b7_0 b6_0 T7.heap n0 Z7 Q7_2) hZ (hw _ (List.mem_of_getElem? (i := 77) rfl)) (hw _ (List.mem_of_getElem? (i := 36) rfl)) (by decide) (by decide)) q10a q10c (g := (mkF m 31 #[.val (.int p1), .val (.int p2), .val (.int p3), .val (.int p4), .val (.ref b6_0), .val (.ref b7_0)] [(.ref b7_0)])) rfl (by rw [hml]; rfl) (Steps.refl _) (argsL := []) (rest := []) (lenOf pd_11 rfl) rfl (by show 2 * 0 + _ ≤ _; exact Nat.le_of_eq rfl) (hb hby at_31) (fun _ _ => ⟨rfl, e9, (by decide : 9 + 0 ≤ _), (by decide : 42 + 0 ≤ _)⟩)
    dsimp only [Pt.U, Pt.locs, Pt.cells, Pt.slots] at X10 l10 y10 z10 st10 hQ10
    replace y10 : k10 = 9 := y10
    replace z10 : n10 = 42 := z10
    subst y10 z10
    obtain ⟨rfl, N10q, e10⟩ := hQ10
    have N10 : Fr n0 L10 := Eq.mpr (congrArg (Fr n0) l10) (Fr.app N8 N10q)
    refine Go.trans st10 ?_
    show Go p e below _ (T10.setTop (mkF m 34 #[.val (.int p1), .val (.int p2), .val (.int p3), .val (.int p4), .val (.ref b6_0), .val (.ref b7_0)] [(.ref b6_0)]))
    refine Go.step (fun t k => XS.aload X10.here hx rfl (hb hby at_34) rfl rfl k) ?_
    show Go p e below _ (T10.setTop (mkF m 36 #[.val (.int p1), .val (.int p2), .val (.int p3), .val (.int p4), .val (.ref b6_0), .val (.ref b7_0)] [(.ref b6_0), (.ref b6_0)]))
    refine Go.step (fun t k => Jvm.RoadKit.acmp (g := (mkF m 36 #[.val (.int p1), .val (.int p2), .val (.int p3), .val (.int p4), .val (.ref b6_0), .val (.ref b7_0)] [(.ref b6_0), (.ref b6_0)])) X10 hx rfl rfl rfl (pc0 := 36) (pc' := 39) (same := true) rfl (hb hby at_36) rfl (decide_eq_true rfl) (by decide) (by decide) k) ?_
    show Go p e below _ (T10.setTop (mkF m 39 #[.val (.int p1), .val (.int p2), .val (.int p3), .val (.int p4), .val (.ref b6_0), .val (.ref b7_0)] []))
    refine Go.step (fun t k => XS.iconst X10.here hx rfl (hb hby at_39)  k) ?_
    show Go p e below _ (T10.setTop (mkF m 40 #[.val (.int p1), .val (.int p2), .val (.int p3), .val (.int p4), .val (.ref b6_0), .val (.ref b7_0)] [(.int (1 : Int32))]))
    refine Go.step (fun t k => XS.goto X10.here hx rfl (pc0 := 40) (pc' := 44) rfl (hb hby at_40) (by decide) (by decide) k) ?_
    show Go p e below _ (T10.setTop (mkF m 44 #[.val (.int p1), .val (.int p2), .val (.int p3), .val (.int p4), .val (.ref b6_0), .val (.ref b7_0)] [(.int (1 : Int32))]))
    exact retWN X10 hx hS7 (by rw [e10]; exact hk7) Bd.notSynchronized Bd.returns (t := .boolean) (by simp) (z' := (1 : Int32)) rfl (hb hby at_44) ⟨rfl, N10⟩ (by decide) (by decide)
  · skip
    by_cases hc11 : (p4 &&& (3 : Int32)) = (1 : Int32)
    · rw [hc11]
      show Go p e below _ (s₁.setTop (mkF m 3 #[.val (.int p1), .val (.int p2), .val (.int p3), .val (.int p4), .unset, .unset] [(.int (1 : Int32))]))
      refine Go.step (fun t k => XS.iloadN X0.here hx rfl (hb hby at_3) rfl k) ?_
      show Go p e below _ (s₁.setTop (mkF m 4 #[.val (.int p1), .val (.int p2), .val (.int p3), .val (.int p4), .unset, .unset] [(.int p1), (.int (1 : Int32))]))
      refine Go.step (fun t k => XS.iloadN X0.here hx rfl (hb hby at_4) rfl k) ?_
      show Go p e below _ (s₁.setTop (mkF m 5 #[.val (.int p1), .val (.int p2), .val (.int p3), .val (.int p4), .unset, .unset] [(.int p2), (.int p1), (.int (1 : Int32))]))
      refine Go.step (fun t k => XS.iloadN X0.here hx rfl (hb hby at_5) rfl k) ?_
      show Go p e below _ (s₁.setTop (mkF m 6 #[.val (.int p1), .val (.int p2), .val (.int p3), .val (.int p4), .unset, .unset] [(.int p3), (.int p2), (.int p1), (.int (1 : Int32))]))
      obtain ⟨_, _, ⟨T12, L12, k12, n12⟩, -, X12, ⟨Lc12, hQ12, l12, y12, z12⟩, st12⟩ := Jvm.LawKit.callS X0 hx (y := (⟨"com/example/menshen/menshen/core/SubjectUserPinLaw", "draw", "(IIII)Ljava/lang/String;"⟩ : MethodName)) hown (mvT hZ (hw _ (List.mem_of_getElem? (i := 0) rfl))) (mvT hZ (hw _ (List.mem_of_getElem? (i := 1) rfl))) (mvT hZ (hw _ (List.mem_of_getElem? (i := 2) rfl))) (mvT hZ (hw _ (List.mem_of_getElem? (i := 3) rfl))) (by decide) (backOf (W := 0) (rm1_1 l Z a0 hw [] p1 p2 p3 wC h0 n0 Z0 hO hC S_COMPACT_STRINGS) hZ (hw _ (List.mem_of_getElem? (i := 3) rfl)) (hw _ (List.mem_of_getElem? (i := 2) rfl)) (by decide) (by decide)) (g := (mkF m 6 #[.val (.int p1), .val (.int p2), .val (.int p3), .val (.int p4), .unset, .unset] [(.int p3), (.int p2), (.int p1), (.int (1 : Int32))])) rfl (by rw [hml]; rfl) (argsL := [(.int (1 : Int32)), (.int p1), (.int p2), (.int p3)]) (rest := []) (lenOf pd_8 rfl) rfl (by show 2 * 0 + _ ≤ _; exact Nat.le_of_eq rfl) (hb hby at_6) (fun _ _ => ⟨rfl, e0, (by decide : 0 + 3 ≤ _), (by decide : 0 + 6 ≤ _)⟩)
      dsimp only [Pt.U, Pt.locs, Pt.cells, Pt.slots] at X12 l12 y12 z12 st12 hQ12
      replace y12 : k12 = 3 := y12
      replace z12 : n12 = 6 := z12
      subst y12 z12
      obtain ⟨b12_0, rfl, N12q, K12, sz12_0, Q12_0, Q12_1⟩ := hQ12
      have N12 : Fr n0 L12 := Eq.mpr (congrArg (Fr n0) l12) (Fr.app N0 N12q)
      have g_b12_0 : n0 ≤ b12_0 := Nat.le_trans Z0 sz12_0
      have sz_b12_0 : h0.size ≤ b12_0 := Nat.le_trans KK0.1 sz12_0
      have O12 := hO.keep K12 all0
      have Z12 := Nat.le_trans Z0 K12.1
      have hk12 := Nat.le_trans hk0 K12.1
      have KK12 : Keep h0 T12.heap [] := KK0.trans K12 all0
      clear hO Z0 KK0 K12
      refine Go.step st12 ?_
      show Go p e below _ (T12.setTop (mkF m 9 #[.val (.int p1), .val (.int p2), .val (.int p3), .val (.int p4), .unset, .unset] [(.ref b12_0)]))
      refine Go.step (fun t k => XS.astore X12.here hx rfl (hb hby at_9) rfl rfl (l' := #[.val (.int p1), .val (.int p2), .val (.int p3), .val (.int p4), .val (.ref b12_0), .unset]) rfl k) ?_
      show Go p e below _ (T12.setTop (mkF m 11 #[.val (.int p1), .val (.int p2), .val (.int p3), .val (.int p4), .val (.ref b12_0), .unset] []))
      refine Go.step (fun t k => XS.aload X12.here hx rfl (hb hby at_11) rfl rfl k) ?_
      show Go p e below _ (T12.setTop (mkF m 13 #[.val (.int p1), .val (.int p2), .val (.int p3), .val (.int p4), .val (.ref b12_0), .unset] [(.ref b12_0)]))
      obtain ⟨_, _, ⟨T13, L13, k13, n13⟩, -, X13, sn13, gr13, ⟨Lc13, hQ13, l13, y13, z13⟩, st13⟩ := callSS X12 hx (y := (⟨"com/example/menshen/menshen/core/Subject", "user", "(Ljava/lang/String;)Lcom/example/menshen/menshen/core/Subject;"⟩ : MethodName)) hown (mvT hZ (hw _ (List.mem_of_getElem? (i := 34) rfl))) (mvT hZ (hw _ (List.mem_of_getElem? (i := 35) rfl))) (mvT hZ (hw _ (List.mem_of_getElem? (i := 36) rfl))) (mvT hZ (hw _ (List.mem_of_getElem? (i := 37) rfl))) (by decide) (backOfS (W := 0) (rm8 l Z a0 hw [] b12_0 oU oV T12.heap n0 Z12 O12 Q12_0 S_USER S_EVERYONE hne_oU_oV) hZ (hw _ (List.mem_of_getElem? (i := 37) rfl)) (hw _ (List.mem_of_getElem? (i := 36) rfl)) (by decide) (by decide)) (g := (mkF m 13 #[.val (.int p1), .val (.int p2), .val (.int p3), .val (.int p4), .val (.ref b12_0), .unset] [(.ref b12_0)])) rfl (by rw [hml]; rfl) (argsL := [(.ref b12_0)]) (rest := []) (lenOf pd_9 rfl) rfl (by show 2 * 0 + _ ≤ _; exact Nat.le_of_eq rfl) (hb hby at_13) (fun _ _ => ⟨rfl, rfl, (by decide : 3 + 5 ≤ _), (by decide : 6 + 34 ≤ _)⟩)
      dsimp only [Pt.U, Pt.locs, Pt.cells, Pt.slots] at X13 l13 y13 z13 st13 hQ13 sn13 gr13
      replace y13 : k13 = 8 := y13
      replace z13 : n13 = 40 := z13
      subst y13 z13
      obtain ⟨b13_0, rfl, N13q, K13, sz13_0, Q13_0, Q13_1, Q13_2⟩ := hQ13
      have N13 : Fr n0 L13 := Eq.mpr (congrArg (Fr n0) l13) (Fr.app N12 N13q)
      have g_b13_0 : n0 ≤ b13_0 := Nat.le_trans Z12 sz13_0
      have sz_b13_0 : h0.size ≤ b13_0 := Nat.le_trans KK12.1 sz13_0
      have ne_b12_0_b13_0 : b12_0 ≠ b13_0 := Nat.ne_of_lt (Nat.lt_of_lt_of_le Q12_0.lt sz13_0)
      have E_b12_0_13 := Q12_0.keep K13
      have F_coder_b12_0_13 := Q12_1.keep K13 nin0
      have O13 := O12.keep K13 all0
      have Z13 := Nat.le_trans Z12 K13.1
      have KK13 : Keep h0 T13.heap [] := KK12.trans K13 all0
      clear Q12_0 Q12_1 O12 Z12 KK12 K13
      obtain ⟨X13, hS13, hZ, hown⟩ := rebS hS0 hk12 X13 sn13 gr13 hZ hown
      have hk13 : T13.heap.size ≤ T13.heap.size := Nat.le_refl _
      refine Go.trans st13 ?_
      show Go p e below _ (T13.setTop (mkF m 16 #[.val (.int p1), .val (.int p2), .val (.int p3), .val (.int p4), .val (.ref b12_0), .unset] [(.ref b13_0)]))
      refine Go.step (fun t k => XS.astore X13.here hx rfl (hb hby at_16) rfl rfl (l' := #[.val (.int p1), .val (.int p2), .val (.int p3), .val (.int p4), .val (.ref b12_0), .val (.ref b13_0)]) rfl k) ?_
      show Go p e below _ (T13.setTop (mkF m 18 #[.val (.int p1), .val (.int p2), .val (.int p3), .val (.int p4), .val (.ref b12_0), .val (.ref b13_0)] []))
      refine Go.step (fun t k => XS.aload X13.here hx rfl (hb hby at_18) rfl rfl k) ?_
      show Go p e below _ (T13.setTop (mkF m 20 #[.val (.int p1), .val (.int p2), .val (.int p3), .val (.int p4), .val (.ref b12_0), .val (.ref b13_0)] [(.ref b13_0)]))
      obtain ⟨cq14, kq14, q14a, q14b, q14c⟩ := isOf hZ rfl Q13_0
      obtain ⟨_, _, ⟨T14, L14, k14, n14⟩, -, X14, ⟨Lc14, hQ14, l14, y14, z14⟩, st14⟩ := X13.virtualBack hx (y := (⟨"com/example/menshen/menshen/core/Subject", "kind", "()Lcom/example/menshen/menshen/core/Subject$Kind;"⟩ : MethodName)) (z := (⟨"com/example/menshen/menshen/core/Subject", "kind", "()Lcom/example/menshen/menshen/core/Subject$Kind;"⟩ : MethodName)) hown (mvT hZ (hw _ (List.mem_of_getElem? (i := 67) rfl))) (mvT hZ (hw _ (List.mem_of_getElem? (i := 68) rfl))) (notFace_of_selects (args := #[]) (mvT hZ (hw _ (List.mem_of_getElem? (i := 70) rfl)))) (mvT hZ (hw _ (List.mem_of_getElem? (i := 70) rfl))) (mvT hZ (hw _ (List.mem_of_getElem? (i := 69) rfl))) (by decide) (backOf (W := 0) (rm12 l Z a0 hw [] b13_0 oU T13.heap n0 Z13 Q13_1) hZ (hw _ (List.mem_of_getElem? (i := 71) rfl)) (hw _ (List.mem_of_getElem? (i := 36) rfl)) (by decide) (by decide)) q14a q14c (g := (mkF m 20 #[.val (.int p1), .val (.int p2), .val (.int p3), .val (.int p4), .val (.ref b12_0), .val (.ref b13_0)] [(.ref b13_0)])) rfl (by rw [hml]; rfl) (Steps.refl _) (argsL := []) (rest := []) (lenOf pd_10 rfl) rfl (by show 2 * 0 + _ ≤ _; exact Nat.le_of_eq rfl) (hb hby at_20) (fun _ _ => ⟨rfl, rfl, (by decide : 8 + 0 ≤ _), (by decide : 40 + 0 ≤ _)⟩)
      dsimp only [Pt.U, Pt.locs, Pt.cells, Pt.slots] at X14 l14 y14 z14 st14 hQ14
      replace y14 : k14 = 8 := y14
      replace z14 : n14 = 40 := z14
      subst y14 z14
      obtain ⟨rfl, N14q, e14⟩ := hQ14
      have N14 : Fr n0 L14 := Eq.mpr (congrArg (Fr n0) l14) (Fr.app N13 N14q)
      refine Go.trans st14 ?_
      show Go p e below _ (T14.setTop (mkF m 23 #[.val (.int p1), .val (.int p2), .val (.int p3), .val (.int p4), .val (.ref b12_0), .val (.ref b13_0)] [(.ref oU)]))
      obtain ⟨T15, X15, e15, st15⟩ := getS2 X14 hx hZ hown (host := "") (Or.inl (hw _ (List.mem_of_getElem? (i := 72) rfl))) Via.refl e14 (S_USER.ext O13.2) (g := (mkF m 23 #[.val (.int p1), .val (.int p2), .val (.int p3), .val (.int p4), .val (.ref b12_0), .val (.ref b13_0)] [(.ref oU)])) rfl (hb hby at_23)
      refine Go.step st15 ?_
      show Go p e below _ (T15.setTop (mkF m 26 #[.val (.int p1), .val (.int p2), .val (.int p3), .val (.int p4), .val (.ref b12_0), .val (.ref b13_0)] [(.ref oU), (.ref oU)]))
      refine Go.step (fun t k => Jvm.RoadKit.acmp (g := (mkF m 26 #[.val (.int p1), .val (.int p2), .val (.int p3), .val (.int p4), .val (.ref b12_0), .val (.ref b13_0)] [(.ref oU), (.ref oU)])) X15 hx rfl rfl rfl (pc0 := 26) (pc' := 29) (same := true) rfl (hb hby at_26) rfl (decide_eq_true rfl) (by decide) (by decide) k) ?_
      show Go p e below _ (T15.setTop (mkF m 29 #[.val (.int p1), .val (.int p2), .val (.int p3), .val (.int p4), .val (.ref b12_0), .val (.ref b13_0)] []))
      refine Go.step (fun t k => XS.aload X15.here hx rfl (hb hby at_29) rfl rfl k) ?_
      show Go p e below _ (T15.setTop (mkF m 31 #[.val (.int p1), .val (.int p2), .val (.int p3), .val (.int p4), .val (.ref b12_0), .val (.ref b13_0)] [(.ref b13_0)]))
      obtain ⟨cq16, kq16, q16a, q16b, q16c⟩ := isOf hZ e15 Q13_0
      obtain ⟨_, _, ⟨T16, L16, k16, n16⟩, -, X16, ⟨Lc16, hQ16, l16, y16, z16⟩, st16⟩ := X15.virtualBack hx (y := (⟨"com/example/menshen/menshen/core/Subject", "id", "()Ljava/lang/String;"⟩ : MethodName)) (z := (⟨"com/example/menshen/menshen/core/Subject", "id", "()Ljava/lang/String;"⟩ : MethodName)) hown (mvT hZ (hw _ (List.mem_of_getElem? (i := 73) rfl))) (mvT hZ (hw _ (List.mem_of_getElem? (i := 74) rfl))) (notFace_of_selects (args := #[]) (mvT hZ (hw _ (List.mem_of_getElem? (i := 76) rfl)))) (mvT hZ (hw _ (List.mem_of_getElem? (i := 76) rfl))) (mvT hZ (hw _ (List.mem_of_getElem? (i := 75) rfl))) (by decide) (backOf (W := 0) (rm13 l Z a0 hw [] b13_0 b12_0 T13.heap n0 Z13 Q13_2) hZ (hw _ (List.mem_of_getElem? (i := 77) rfl)) (hw _ (List.mem_of_getElem? (i := 36) rfl)) (by decide) (by decide)) q16a q16c (g := (mkF m 31 #[.val (.int p1), .val (.int p2), .val (.int p3), .val (.int p4), .val (.ref b12_0), .val (.ref b13_0)] [(.ref b13_0)])) rfl (by rw [hml]; rfl) (Steps.refl _) (argsL := []) (rest := []) (lenOf pd_11 rfl) rfl (by show 2 * 0 + _ ≤ _; exact Nat.le_of_eq rfl) (hb hby at_31) (fun _ _ => ⟨rfl, e15, (by decide : 8 + 0 ≤ _), (by decide : 40 + 0 ≤ _)⟩)
      dsimp only [Pt.U, Pt.locs, Pt.cells, Pt.slots] at X16 l16 y16 z16 st16 hQ16
      replace y16 : k16 = 8 := y16
      replace z16 : n16 = 40 := z16
      subst y16 z16
      obtain ⟨rfl, N16q, e16⟩ := hQ16
      have N16 : Fr n0 L16 := Eq.mpr (congrArg (Fr n0) l16) (Fr.app N14 N16q)
      refine Go.trans st16 ?_
      show Go p e below _ (T16.setTop (mkF m 34 #[.val (.int p1), .val (.int p2), .val (.int p3), .val (.int p4), .val (.ref b12_0), .val (.ref b13_0)] [(.ref b12_0)]))
      refine Go.step (fun t k => XS.aload X16.here hx rfl (hb hby at_34) rfl rfl k) ?_
      show Go p e below _ (T16.setTop (mkF m 36 #[.val (.int p1), .val (.int p2), .val (.int p3), .val (.int p4), .val (.ref b12_0), .val (.ref b13_0)] [(.ref b12_0), (.ref b12_0)]))
      refine Go.step (fun t k => Jvm.RoadKit.acmp (g := (mkF m 36 #[.val (.int p1), .val (.int p2), .val (.int p3), .val (.int p4), .val (.ref b12_0), .val (.ref b13_0)] [(.ref b12_0), (.ref b12_0)])) X16 hx rfl rfl rfl (pc0 := 36) (pc' := 39) (same := true) rfl (hb hby at_36) rfl (decide_eq_true rfl) (by decide) (by decide) k) ?_
      show Go p e below _ (T16.setTop (mkF m 39 #[.val (.int p1), .val (.int p2), .val (.int p3), .val (.int p4), .val (.ref b12_0), .val (.ref b13_0)] []))
      refine Go.step (fun t k => XS.iconst X16.here hx rfl (hb hby at_39)  k) ?_
      show Go p e below _ (T16.setTop (mkF m 40 #[.val (.int p1), .val (.int p2), .val (.int p3), .val (.int p4), .val (.ref b12_0), .val (.ref b13_0)] [(.int (1 : Int32))]))
      refine Go.step (fun t k => XS.goto X16.here hx rfl (pc0 := 40) (pc' := 44) rfl (hb hby at_40) (by decide) (by decide) k) ?_
      show Go p e below _ (T16.setTop (mkF m 44 #[.val (.int p1), .val (.int p2), .val (.int p3), .val (.int p4), .val (.ref b12_0), .val (.ref b13_0)] [(.int (1 : Int32))]))
      exact retWN X16 hx hS13 (by rw [e16]; exact hk13) Bd.notSynchronized Bd.returns (t := .boolean) (by simp) (z' := (1 : Int32)) rfl (hb hby at_44) ⟨rfl, N16⟩ (by decide) (by decide)
    · skip
      by_cases hc17 : (p4 &&& (3 : Int32)) = (2 : Int32)
      · rw [hc17]
        show Go p e below _ (s₁.setTop (mkF m 3 #[.val (.int p1), .val (.int p2), .val (.int p3), .val (.int p4), .unset, .unset] [(.int (2 : Int32))]))
        refine Go.step (fun t k => XS.iloadN X0.here hx rfl (hb hby at_3) rfl k) ?_
        show Go p e below _ (s₁.setTop (mkF m 4 #[.val (.int p1), .val (.int p2), .val (.int p3), .val (.int p4), .unset, .unset] [(.int p1), (.int (2 : Int32))]))
        refine Go.step (fun t k => XS.iloadN X0.here hx rfl (hb hby at_4) rfl k) ?_
        show Go p e below _ (s₁.setTop (mkF m 5 #[.val (.int p1), .val (.int p2), .val (.int p3), .val (.int p4), .unset, .unset] [(.int p2), (.int p1), (.int (2 : Int32))]))
        refine Go.step (fun t k => XS.iloadN X0.here hx rfl (hb hby at_5) rfl k) ?_
        show Go p e below _ (s₁.setTop (mkF m 6 #[.val (.int p1), .val (.int p2), .val (.int p3), .val (.int p4), .unset, .unset] [(.int p3), (.int p2), (.int p1), (.int (2 : Int32))]))
        obtain ⟨_, _, ⟨T18, L18, k18, n18⟩, -, X18, ⟨Lc18, hQ18, l18, y18, z18⟩, st18⟩ := Jvm.LawKit.callS X0 hx (y := (⟨"com/example/menshen/menshen/core/SubjectUserPinLaw", "draw", "(IIII)Ljava/lang/String;"⟩ : MethodName)) hown (mvT hZ (hw _ (List.mem_of_getElem? (i := 0) rfl))) (mvT hZ (hw _ (List.mem_of_getElem? (i := 1) rfl))) (mvT hZ (hw _ (List.mem_of_getElem? (i := 2) rfl))) (mvT hZ (hw _ (List.mem_of_getElem? (i := 3) rfl))) (by decide) (backOf (W := 0) (rm1_2 l Z a0 hw [] p1 p2 p3 wC h0 n0 Z0 hO hC S_COMPACT_STRINGS) hZ (hw _ (List.mem_of_getElem? (i := 3) rfl)) (hw _ (List.mem_of_getElem? (i := 2) rfl)) (by decide) (by decide)) (g := (mkF m 6 #[.val (.int p1), .val (.int p2), .val (.int p3), .val (.int p4), .unset, .unset] [(.int p3), (.int p2), (.int p1), (.int (2 : Int32))])) rfl (by rw [hml]; rfl) (argsL := [(.int (2 : Int32)), (.int p1), (.int p2), (.int p3)]) (rest := []) (lenOf pd_8 rfl) rfl (by show 2 * 0 + _ ≤ _; exact Nat.le_of_eq rfl) (hb hby at_6) (fun _ _ => ⟨rfl, e0, (by decide : 0 + 3 ≤ _), (by decide : 0 + 8 ≤ _)⟩)
        dsimp only [Pt.U, Pt.locs, Pt.cells, Pt.slots] at X18 l18 y18 z18 st18 hQ18
        replace y18 : k18 = 3 := y18
        replace z18 : n18 = 8 := z18
        subst y18 z18
        obtain ⟨b18_0, rfl, N18q, K18, sz18_0, Q18_0, Q18_1⟩ := hQ18
        have N18 : Fr n0 L18 := Eq.mpr (congrArg (Fr n0) l18) (Fr.app N0 N18q)
        have g_b18_0 : n0 ≤ b18_0 := Nat.le_trans Z0 sz18_0
        have sz_b18_0 : h0.size ≤ b18_0 := Nat.le_trans KK0.1 sz18_0
        have O18 := hO.keep K18 all0
        have Z18 := Nat.le_trans Z0 K18.1
        have hk18 := Nat.le_trans hk0 K18.1
        have KK18 : Keep h0 T18.heap [] := KK0.trans K18 all0
        clear hO Z0 KK0 K18
        refine Go.step st18 ?_
        show Go p e below _ (T18.setTop (mkF m 9 #[.val (.int p1), .val (.int p2), .val (.int p3), .val (.int p4), .unset, .unset] [(.ref b18_0)]))
        refine Go.step (fun t k => XS.astore X18.here hx rfl (hb hby at_9) rfl rfl (l' := #[.val (.int p1), .val (.int p2), .val (.int p3), .val (.int p4), .val (.ref b18_0), .unset]) rfl k) ?_
        show Go p e below _ (T18.setTop (mkF m 11 #[.val (.int p1), .val (.int p2), .val (.int p3), .val (.int p4), .val (.ref b18_0), .unset] []))
        refine Go.step (fun t k => XS.aload X18.here hx rfl (hb hby at_11) rfl rfl k) ?_
        show Go p e below _ (T18.setTop (mkF m 13 #[.val (.int p1), .val (.int p2), .val (.int p3), .val (.int p4), .val (.ref b18_0), .unset] [(.ref b18_0)]))
        obtain ⟨_, _, ⟨T19, L19, k19, n19⟩, -, X19, sn19, gr19, ⟨Lc19, hQ19, l19, y19, z19⟩, st19⟩ := callSS X18 hx (y := (⟨"com/example/menshen/menshen/core/Subject", "user", "(Ljava/lang/String;)Lcom/example/menshen/menshen/core/Subject;"⟩ : MethodName)) hown (mvT hZ (hw _ (List.mem_of_getElem? (i := 34) rfl))) (mvT hZ (hw _ (List.mem_of_getElem? (i := 35) rfl))) (mvT hZ (hw _ (List.mem_of_getElem? (i := 36) rfl))) (mvT hZ (hw _ (List.mem_of_getElem? (i := 37) rfl))) (by decide) (backOfS (W := 0) (rm8 l Z a0 hw [] b18_0 oU oV T18.heap n0 Z18 O18 Q18_0 S_USER S_EVERYONE hne_oU_oV) hZ (hw _ (List.mem_of_getElem? (i := 37) rfl)) (hw _ (List.mem_of_getElem? (i := 36) rfl)) (by decide) (by decide)) (g := (mkF m 13 #[.val (.int p1), .val (.int p2), .val (.int p3), .val (.int p4), .val (.ref b18_0), .unset] [(.ref b18_0)])) rfl (by rw [hml]; rfl) (argsL := [(.ref b18_0)]) (rest := []) (lenOf pd_9 rfl) rfl (by show 2 * 0 + _ ≤ _; exact Nat.le_of_eq rfl) (hb hby at_13) (fun _ _ => ⟨rfl, rfl, (by decide : 3 + 5 ≤ _), (by decide : 8 + 34 ≤ _)⟩)
        dsimp only [Pt.U, Pt.locs, Pt.cells, Pt.slots] at X19 l19 y19 z19 st19 hQ19 sn19 gr19
        replace y19 : k19 = 8 := y19
        replace z19 : n19 = 42 := z19
        subst y19 z19
        obtain ⟨b19_0, rfl, N19q, K19, sz19_0, Q19_0, Q19_1, Q19_2⟩ := hQ19
        have N19 : Fr n0 L19 := Eq.mpr (congrArg (Fr n0) l19) (Fr.app N18 N19q)
        have g_b19_0 : n0 ≤ b19_0 := Nat.le_trans Z18 sz19_0
        have sz_b19_0 : h0.size ≤ b19_0 := Nat.le_trans KK18.1 sz19_0
        have ne_b18_0_b19_0 : b18_0 ≠ b19_0 := Nat.ne_of_lt (Nat.lt_of_lt_of_le Q18_0.lt sz19_0)
        have E_b18_0_19 := Q18_0.keep K19
        have F_coder_b18_0_19 := Q18_1.keep K19 nin0
        have O19 := O18.keep K19 all0
        have Z19 := Nat.le_trans Z18 K19.1
        have KK19 : Keep h0 T19.heap [] := KK18.trans K19 all0
        clear Q18_0 Q18_1 O18 Z18 KK18 K19
        obtain ⟨X19, hS19, hZ, hown⟩ := rebS hS0 hk18 X19 sn19 gr19 hZ hown
        have hk19 : T19.heap.size ≤ T19.heap.size := Nat.le_refl _
        refine Go.trans st19 ?_
        show Go p e below _ (T19.setTop (mkF m 16 #[.val (.int p1), .val (.int p2), .val (.int p3), .val (.int p4), .val (.ref b18_0), .unset] [(.ref b19_0)]))
        refine Go.step (fun t k => XS.astore X19.here hx rfl (hb hby at_16) rfl rfl (l' := #[.val (.int p1), .val (.int p2), .val (.int p3), .val (.int p4), .val (.ref b18_0), .val (.ref b19_0)]) rfl k) ?_
        show Go p e below _ (T19.setTop (mkF m 18 #[.val (.int p1), .val (.int p2), .val (.int p3), .val (.int p4), .val (.ref b18_0), .val (.ref b19_0)] []))
        refine Go.step (fun t k => XS.aload X19.here hx rfl (hb hby at_18) rfl rfl k) ?_
        show Go p e below _ (T19.setTop (mkF m 20 #[.val (.int p1), .val (.int p2), .val (.int p3), .val (.int p4), .val (.ref b18_0), .val (.ref b19_0)] [(.ref b19_0)]))
        obtain ⟨cq20, kq20, q20a, q20b, q20c⟩ := isOf hZ rfl Q19_0
        obtain ⟨_, _, ⟨T20, L20, k20, n20⟩, -, X20, ⟨Lc20, hQ20, l20, y20, z20⟩, st20⟩ := X19.virtualBack hx (y := (⟨"com/example/menshen/menshen/core/Subject", "kind", "()Lcom/example/menshen/menshen/core/Subject$Kind;"⟩ : MethodName)) (z := (⟨"com/example/menshen/menshen/core/Subject", "kind", "()Lcom/example/menshen/menshen/core/Subject$Kind;"⟩ : MethodName)) hown (mvT hZ (hw _ (List.mem_of_getElem? (i := 67) rfl))) (mvT hZ (hw _ (List.mem_of_getElem? (i := 68) rfl))) (notFace_of_selects (args := #[]) (mvT hZ (hw _ (List.mem_of_getElem? (i := 70) rfl)))) (mvT hZ (hw _ (List.mem_of_getElem? (i := 70) rfl))) (mvT hZ (hw _ (List.mem_of_getElem? (i := 69) rfl))) (by decide) (backOf (W := 0) (rm12 l Z a0 hw [] b19_0 oU T19.heap n0 Z19 Q19_1) hZ (hw _ (List.mem_of_getElem? (i := 71) rfl)) (hw _ (List.mem_of_getElem? (i := 36) rfl)) (by decide) (by decide)) q20a q20c (g := (mkF m 20 #[.val (.int p1), .val (.int p2), .val (.int p3), .val (.int p4), .val (.ref b18_0), .val (.ref b19_0)] [(.ref b19_0)])) rfl (by rw [hml]; rfl) (Steps.refl _) (argsL := []) (rest := []) (lenOf pd_10 rfl) rfl (by show 2 * 0 + _ ≤ _; exact Nat.le_of_eq rfl) (hb hby at_20) (fun _ _ => ⟨rfl, rfl, (by decide : 8 + 0 ≤ _), (by decide : 42 + 0 ≤ _)⟩)
        dsimp only [Pt.U, Pt.locs, Pt.cells, Pt.slots] at X20 l20 y20 z20 st20 hQ20
        replace y20 : k20 = 8 := y20
        replace z20 : n20 = 42 := z20
        subst y20 z20
        obtain ⟨rfl, N20q, e20⟩ := hQ20
        have N20 : Fr n0 L20 := Eq.mpr (congrArg (Fr n0) l20) (Fr.app N19 N20q)
        refine Go.trans st20 ?_
        show Go p e below _ (T20.setTop (mkF m 23 #[.val (.int p1), .val (.int p2), .val (.int p3), .val (.int p4), .val (.ref b18_0), .val (.ref b19_0)] [(.ref oU)]))
        obtain ⟨T21, X21, e21, st21⟩ := getS2 X20 hx hZ hown (host := "") (Or.inl (hw _ (List.mem_of_getElem? (i := 72) rfl))) Via.refl e20 (S_USER.ext O19.2) (g := (mkF m 23 #[.val (.int p1), .val (.int p2), .val (.int p3), .val (.int p4), .val (.ref b18_0), .val (.ref b19_0)] [(.ref oU)])) rfl (hb hby at_23)
        refine Go.step st21 ?_
        show Go p e below _ (T21.setTop (mkF m 26 #[.val (.int p1), .val (.int p2), .val (.int p3), .val (.int p4), .val (.ref b18_0), .val (.ref b19_0)] [(.ref oU), (.ref oU)]))
        refine Go.step (fun t k => Jvm.RoadKit.acmp (g := (mkF m 26 #[.val (.int p1), .val (.int p2), .val (.int p3), .val (.int p4), .val (.ref b18_0), .val (.ref b19_0)] [(.ref oU), (.ref oU)])) X21 hx rfl rfl rfl (pc0 := 26) (pc' := 29) (same := true) rfl (hb hby at_26) rfl (decide_eq_true rfl) (by decide) (by decide) k) ?_
        show Go p e below _ (T21.setTop (mkF m 29 #[.val (.int p1), .val (.int p2), .val (.int p3), .val (.int p4), .val (.ref b18_0), .val (.ref b19_0)] []))
        refine Go.step (fun t k => XS.aload X21.here hx rfl (hb hby at_29) rfl rfl k) ?_
        show Go p e below _ (T21.setTop (mkF m 31 #[.val (.int p1), .val (.int p2), .val (.int p3), .val (.int p4), .val (.ref b18_0), .val (.ref b19_0)] [(.ref b19_0)]))
        obtain ⟨cq22, kq22, q22a, q22b, q22c⟩ := isOf hZ e21 Q19_0
        obtain ⟨_, _, ⟨T22, L22, k22, n22⟩, -, X22, ⟨Lc22, hQ22, l22, y22, z22⟩, st22⟩ := X21.virtualBack hx (y := (⟨"com/example/menshen/menshen/core/Subject", "id", "()Ljava/lang/String;"⟩ : MethodName)) (z := (⟨"com/example/menshen/menshen/core/Subject", "id", "()Ljava/lang/String;"⟩ : MethodName)) hown (mvT hZ (hw _ (List.mem_of_getElem? (i := 73) rfl))) (mvT hZ (hw _ (List.mem_of_getElem? (i := 74) rfl))) (notFace_of_selects (args := #[]) (mvT hZ (hw _ (List.mem_of_getElem? (i := 76) rfl)))) (mvT hZ (hw _ (List.mem_of_getElem? (i := 76) rfl))) (mvT hZ (hw _ (List.mem_of_getElem? (i := 75) rfl))) (by decide) (backOf (W := 0) (rm13 l Z a0 hw [] b19_0 b18_0 T19.heap n0 Z19 Q19_2) hZ (hw _ (List.mem_of_getElem? (i := 77) rfl)) (hw _ (List.mem_of_getElem? (i := 36) rfl)) (by decide) (by decide)) q22a q22c (g := (mkF m 31 #[.val (.int p1), .val (.int p2), .val (.int p3), .val (.int p4), .val (.ref b18_0), .val (.ref b19_0)] [(.ref b19_0)])) rfl (by rw [hml]; rfl) (Steps.refl _) (argsL := []) (rest := []) (lenOf pd_11 rfl) rfl (by show 2 * 0 + _ ≤ _; exact Nat.le_of_eq rfl) (hb hby at_31) (fun _ _ => ⟨rfl, e21, (by decide : 8 + 0 ≤ _), (by decide : 42 + 0 ≤ _)⟩)
        dsimp only [Pt.U, Pt.locs, Pt.cells, Pt.slots] at X22 l22 y22 z22 st22 hQ22
        replace y22 : k22 = 8 := y22
        replace z22 : n22 = 42 := z22
        subst y22 z22
        obtain ⟨rfl, N22q, e22⟩ := hQ22
        have N22 : Fr n0 L22 := Eq.mpr (congrArg (Fr n0) l22) (Fr.app N20 N22q)
        refine Go.trans st22 ?_
        show Go p e below _ (T22.setTop (mkF m 34 #[.val (.int p1), .val (.int p2), .val (.int p3), .val (.int p4), .val (.ref b18_0), .val (.ref b19_0)] [(.ref b18_0)]))
        refine Go.step (fun t k => XS.aload X22.here hx rfl (hb hby at_34) rfl rfl k) ?_
        show Go p e below _ (T22.setTop (mkF m 36 #[.val (.int p1), .val (.int p2), .val (.int p3), .val (.int p4), .val (.ref b18_0), .val (.ref b19_0)] [(.ref b18_0), (.ref b18_0)]))
        refine Go.step (fun t k => Jvm.RoadKit.acmp (g := (mkF m 36 #[.val (.int p1), .val (.int p2), .val (.int p3), .val (.int p4), .val (.ref b18_0), .val (.ref b19_0)] [(.ref b18_0), (.ref b18_0)])) X22 hx rfl rfl rfl (pc0 := 36) (pc' := 39) (same := true) rfl (hb hby at_36) rfl (decide_eq_true rfl) (by decide) (by decide) k) ?_
        show Go p e below _ (T22.setTop (mkF m 39 #[.val (.int p1), .val (.int p2), .val (.int p3), .val (.int p4), .val (.ref b18_0), .val (.ref b19_0)] []))
        refine Go.step (fun t k => XS.iconst X22.here hx rfl (hb hby at_39)  k) ?_
        show Go p e below _ (T22.setTop (mkF m 40 #[.val (.int p1), .val (.int p2), .val (.int p3), .val (.int p4), .val (.ref b18_0), .val (.ref b19_0)] [(.int (1 : Int32))]))
        refine Go.step (fun t k => XS.goto X22.here hx rfl (pc0 := 40) (pc' := 44) rfl (hb hby at_40) (by decide) (by decide) k) ?_
        show Go p e below _ (T22.setTop (mkF m 44 #[.val (.int p1), .val (.int p2), .val (.int p3), .val (.int p4), .val (.ref b18_0), .val (.ref b19_0)] [(.int (1 : Int32))]))
        exact retWN X22 hx hS19 (by rw [e22]; exact hk19) Bd.notSynchronized Bd.returns (t := .boolean) (by simp) (z' := (1 : Int32)) rfl (hb hby at_44) ⟨rfl, N22⟩ (by decide) (by decide)
      · skip
        by_cases hc23 : (p4 &&& (3 : Int32)) = (3 : Int32)
        · rw [hc23]
          show Go p e below _ (s₁.setTop (mkF m 3 #[.val (.int p1), .val (.int p2), .val (.int p3), .val (.int p4), .unset, .unset] [(.int (3 : Int32))]))
          refine Go.step (fun t k => XS.iloadN X0.here hx rfl (hb hby at_3) rfl k) ?_
          show Go p e below _ (s₁.setTop (mkF m 4 #[.val (.int p1), .val (.int p2), .val (.int p3), .val (.int p4), .unset, .unset] [(.int p1), (.int (3 : Int32))]))
          refine Go.step (fun t k => XS.iloadN X0.here hx rfl (hb hby at_4) rfl k) ?_
          show Go p e below _ (s₁.setTop (mkF m 5 #[.val (.int p1), .val (.int p2), .val (.int p3), .val (.int p4), .unset, .unset] [(.int p2), (.int p1), (.int (3 : Int32))]))
          refine Go.step (fun t k => XS.iloadN X0.here hx rfl (hb hby at_5) rfl k) ?_
          show Go p e below _ (s₁.setTop (mkF m 6 #[.val (.int p1), .val (.int p2), .val (.int p3), .val (.int p4), .unset, .unset] [(.int p3), (.int p2), (.int p1), (.int (3 : Int32))]))
          obtain ⟨_, _, ⟨T24, L24, k24, n24⟩, -, X24, ⟨Lc24, hQ24, l24, y24, z24⟩, st24⟩ := Jvm.LawKit.callS X0 hx (y := (⟨"com/example/menshen/menshen/core/SubjectUserPinLaw", "draw", "(IIII)Ljava/lang/String;"⟩ : MethodName)) hown (mvT hZ (hw _ (List.mem_of_getElem? (i := 0) rfl))) (mvT hZ (hw _ (List.mem_of_getElem? (i := 1) rfl))) (mvT hZ (hw _ (List.mem_of_getElem? (i := 2) rfl))) (mvT hZ (hw _ (List.mem_of_getElem? (i := 3) rfl))) (by decide) (backOf (W := 0) (rm1_3 l Z a0 hw [] p1 p2 p3 wC h0 n0 Z0 hO hC S_COMPACT_STRINGS) hZ (hw _ (List.mem_of_getElem? (i := 3) rfl)) (hw _ (List.mem_of_getElem? (i := 2) rfl)) (by decide) (by decide)) (g := (mkF m 6 #[.val (.int p1), .val (.int p2), .val (.int p3), .val (.int p4), .unset, .unset] [(.int p3), (.int p2), (.int p1), (.int (3 : Int32))])) rfl (by rw [hml]; rfl) (argsL := [(.int (3 : Int32)), (.int p1), (.int p2), (.int p3)]) (rest := []) (lenOf pd_8 rfl) rfl (by show 2 * 0 + _ ≤ _; exact Nat.le_of_eq rfl) (hb hby at_6) (fun _ _ => ⟨rfl, e0, (by decide : 0 + 3 ≤ _), (by decide : 0 + 10 ≤ _)⟩)
          dsimp only [Pt.U, Pt.locs, Pt.cells, Pt.slots] at X24 l24 y24 z24 st24 hQ24
          replace y24 : k24 = 3 := y24
          replace z24 : n24 = 10 := z24
          subst y24 z24
          obtain ⟨b24_0, rfl, N24q, K24, sz24_0, Q24_0, Q24_1⟩ := hQ24
          have N24 : Fr n0 L24 := Eq.mpr (congrArg (Fr n0) l24) (Fr.app N0 N24q)
          have g_b24_0 : n0 ≤ b24_0 := Nat.le_trans Z0 sz24_0
          have sz_b24_0 : h0.size ≤ b24_0 := Nat.le_trans KK0.1 sz24_0
          have O24 := hO.keep K24 all0
          have Z24 := Nat.le_trans Z0 K24.1
          have hk24 := Nat.le_trans hk0 K24.1
          have KK24 : Keep h0 T24.heap [] := KK0.trans K24 all0
          clear hO Z0 KK0 K24
          refine Go.step st24 ?_
          show Go p e below _ (T24.setTop (mkF m 9 #[.val (.int p1), .val (.int p2), .val (.int p3), .val (.int p4), .unset, .unset] [(.ref b24_0)]))
          refine Go.step (fun t k => XS.astore X24.here hx rfl (hb hby at_9) rfl rfl (l' := #[.val (.int p1), .val (.int p2), .val (.int p3), .val (.int p4), .val (.ref b24_0), .unset]) rfl k) ?_
          show Go p e below _ (T24.setTop (mkF m 11 #[.val (.int p1), .val (.int p2), .val (.int p3), .val (.int p4), .val (.ref b24_0), .unset] []))
          refine Go.step (fun t k => XS.aload X24.here hx rfl (hb hby at_11) rfl rfl k) ?_
          show Go p e below _ (T24.setTop (mkF m 13 #[.val (.int p1), .val (.int p2), .val (.int p3), .val (.int p4), .val (.ref b24_0), .unset] [(.ref b24_0)]))
          obtain ⟨_, _, ⟨T25, L25, k25, n25⟩, -, X25, sn25, gr25, ⟨Lc25, hQ25, l25, y25, z25⟩, st25⟩ := callSS X24 hx (y := (⟨"com/example/menshen/menshen/core/Subject", "user", "(Ljava/lang/String;)Lcom/example/menshen/menshen/core/Subject;"⟩ : MethodName)) hown (mvT hZ (hw _ (List.mem_of_getElem? (i := 34) rfl))) (mvT hZ (hw _ (List.mem_of_getElem? (i := 35) rfl))) (mvT hZ (hw _ (List.mem_of_getElem? (i := 36) rfl))) (mvT hZ (hw _ (List.mem_of_getElem? (i := 37) rfl))) (by decide) (backOfS (W := 0) (rm8 l Z a0 hw [] b24_0 oU oV T24.heap n0 Z24 O24 Q24_0 S_USER S_EVERYONE hne_oU_oV) hZ (hw _ (List.mem_of_getElem? (i := 37) rfl)) (hw _ (List.mem_of_getElem? (i := 36) rfl)) (by decide) (by decide)) (g := (mkF m 13 #[.val (.int p1), .val (.int p2), .val (.int p3), .val (.int p4), .val (.ref b24_0), .unset] [(.ref b24_0)])) rfl (by rw [hml]; rfl) (argsL := [(.ref b24_0)]) (rest := []) (lenOf pd_9 rfl) rfl (by show 2 * 0 + _ ≤ _; exact Nat.le_of_eq rfl) (hb hby at_13) (fun _ _ => ⟨rfl, rfl, (by decide : 3 + 5 ≤ _), (by decide : 10 + 34 ≤ _)⟩)
          dsimp only [Pt.U, Pt.locs, Pt.cells, Pt.slots] at X25 l25 y25 z25 st25 hQ25 sn25 gr25
          replace y25 : k25 = 8 := y25
          replace z25 : n25 = 44 := z25
          subst y25 z25
          obtain ⟨b25_0, rfl, N25q, K25, sz25_0, Q25_0, Q25_1, Q25_2⟩ := hQ25
          have N25 : Fr n0 L25 := Eq.mpr (congrArg (Fr n0) l25) (Fr.app N24 N25q)
          have g_b25_0 : n0 ≤ b25_0 := Nat.le_trans Z24 sz25_0
          have sz_b25_0 : h0.size ≤ b25_0 := Nat.le_trans KK24.1 sz25_0
          have ne_b24_0_b25_0 : b24_0 ≠ b25_0 := Nat.ne_of_lt (Nat.lt_of_lt_of_le Q24_0.lt sz25_0)
          have E_b24_0_25 := Q24_0.keep K25
          have F_coder_b24_0_25 := Q24_1.keep K25 nin0
          have O25 := O24.keep K25 all0
          have Z25 := Nat.le_trans Z24 K25.1
          have KK25 : Keep h0 T25.heap [] := KK24.trans K25 all0
          clear Q24_0 Q24_1 O24 Z24 KK24 K25
          obtain ⟨X25, hS25, hZ, hown⟩ := rebS hS0 hk24 X25 sn25 gr25 hZ hown
          have hk25 : T25.heap.size ≤ T25.heap.size := Nat.le_refl _
          refine Go.trans st25 ?_
          show Go p e below _ (T25.setTop (mkF m 16 #[.val (.int p1), .val (.int p2), .val (.int p3), .val (.int p4), .val (.ref b24_0), .unset] [(.ref b25_0)]))
          refine Go.step (fun t k => XS.astore X25.here hx rfl (hb hby at_16) rfl rfl (l' := #[.val (.int p1), .val (.int p2), .val (.int p3), .val (.int p4), .val (.ref b24_0), .val (.ref b25_0)]) rfl k) ?_
          show Go p e below _ (T25.setTop (mkF m 18 #[.val (.int p1), .val (.int p2), .val (.int p3), .val (.int p4), .val (.ref b24_0), .val (.ref b25_0)] []))
          refine Go.step (fun t k => XS.aload X25.here hx rfl (hb hby at_18) rfl rfl k) ?_
          show Go p e below _ (T25.setTop (mkF m 20 #[.val (.int p1), .val (.int p2), .val (.int p3), .val (.int p4), .val (.ref b24_0), .val (.ref b25_0)] [(.ref b25_0)]))
          obtain ⟨cq26, kq26, q26a, q26b, q26c⟩ := isOf hZ rfl Q25_0
          obtain ⟨_, _, ⟨T26, L26, k26, n26⟩, -, X26, ⟨Lc26, hQ26, l26, y26, z26⟩, st26⟩ := X25.virtualBack hx (y := (⟨"com/example/menshen/menshen/core/Subject", "kind", "()Lcom/example/menshen/menshen/core/Subject$Kind;"⟩ : MethodName)) (z := (⟨"com/example/menshen/menshen/core/Subject", "kind", "()Lcom/example/menshen/menshen/core/Subject$Kind;"⟩ : MethodName)) hown (mvT hZ (hw _ (List.mem_of_getElem? (i := 67) rfl))) (mvT hZ (hw _ (List.mem_of_getElem? (i := 68) rfl))) (notFace_of_selects (args := #[]) (mvT hZ (hw _ (List.mem_of_getElem? (i := 70) rfl)))) (mvT hZ (hw _ (List.mem_of_getElem? (i := 70) rfl))) (mvT hZ (hw _ (List.mem_of_getElem? (i := 69) rfl))) (by decide) (backOf (W := 0) (rm12 l Z a0 hw [] b25_0 oU T25.heap n0 Z25 Q25_1) hZ (hw _ (List.mem_of_getElem? (i := 71) rfl)) (hw _ (List.mem_of_getElem? (i := 36) rfl)) (by decide) (by decide)) q26a q26c (g := (mkF m 20 #[.val (.int p1), .val (.int p2), .val (.int p3), .val (.int p4), .val (.ref b24_0), .val (.ref b25_0)] [(.ref b25_0)])) rfl (by rw [hml]; rfl) (Steps.refl _) (argsL := []) (rest := []) (lenOf pd_10 rfl) rfl (by show 2 * 0 + _ ≤ _; exact Nat.le_of_eq rfl) (hb hby at_20) (fun _ _ => ⟨rfl, rfl, (by decide : 8 + 0 ≤ _), (by decide : 44 + 0 ≤ _)⟩)
          dsimp only [Pt.U, Pt.locs, Pt.cells, Pt.slots] at X26 l26 y26 z26 st26 hQ26
          replace y26 : k26 = 8 := y26
          replace z26 : n26 = 44 := z26
          subst y26 z26
          obtain ⟨rfl, N26q, e26⟩ := hQ26
          have N26 : Fr n0 L26 := Eq.mpr (congrArg (Fr n0) l26) (Fr.app N25 N26q)
          refine Go.trans st26 ?_
          show Go p e below _ (T26.setTop (mkF m 23 #[.val (.int p1), .val (.int p2), .val (.int p3), .val (.int p4), .val (.ref b24_0), .val (.ref b25_0)] [(.ref oU)]))
          obtain ⟨T27, X27, e27, st27⟩ := getS2 X26 hx hZ hown (host := "") (Or.inl (hw _ (List.mem_of_getElem? (i := 72) rfl))) Via.refl e26 (S_USER.ext O25.2) (g := (mkF m 23 #[.val (.int p1), .val (.int p2), .val (.int p3), .val (.int p4), .val (.ref b24_0), .val (.ref b25_0)] [(.ref oU)])) rfl (hb hby at_23)
          refine Go.step st27 ?_
          show Go p e below _ (T27.setTop (mkF m 26 #[.val (.int p1), .val (.int p2), .val (.int p3), .val (.int p4), .val (.ref b24_0), .val (.ref b25_0)] [(.ref oU), (.ref oU)]))
          refine Go.step (fun t k => Jvm.RoadKit.acmp (g := (mkF m 26 #[.val (.int p1), .val (.int p2), .val (.int p3), .val (.int p4), .val (.ref b24_0), .val (.ref b25_0)] [(.ref oU), (.ref oU)])) X27 hx rfl rfl rfl (pc0 := 26) (pc' := 29) (same := true) rfl (hb hby at_26) rfl (decide_eq_true rfl) (by decide) (by decide) k) ?_
          show Go p e below _ (T27.setTop (mkF m 29 #[.val (.int p1), .val (.int p2), .val (.int p3), .val (.int p4), .val (.ref b24_0), .val (.ref b25_0)] []))
          refine Go.step (fun t k => XS.aload X27.here hx rfl (hb hby at_29) rfl rfl k) ?_
          show Go p e below _ (T27.setTop (mkF m 31 #[.val (.int p1), .val (.int p2), .val (.int p3), .val (.int p4), .val (.ref b24_0), .val (.ref b25_0)] [(.ref b25_0)]))
          obtain ⟨cq28, kq28, q28a, q28b, q28c⟩ := isOf hZ e27 Q25_0
          obtain ⟨_, _, ⟨T28, L28, k28, n28⟩, -, X28, ⟨Lc28, hQ28, l28, y28, z28⟩, st28⟩ := X27.virtualBack hx (y := (⟨"com/example/menshen/menshen/core/Subject", "id", "()Ljava/lang/String;"⟩ : MethodName)) (z := (⟨"com/example/menshen/menshen/core/Subject", "id", "()Ljava/lang/String;"⟩ : MethodName)) hown (mvT hZ (hw _ (List.mem_of_getElem? (i := 73) rfl))) (mvT hZ (hw _ (List.mem_of_getElem? (i := 74) rfl))) (notFace_of_selects (args := #[]) (mvT hZ (hw _ (List.mem_of_getElem? (i := 76) rfl)))) (mvT hZ (hw _ (List.mem_of_getElem? (i := 76) rfl))) (mvT hZ (hw _ (List.mem_of_getElem? (i := 75) rfl))) (by decide) (backOf (W := 0) (rm13 l Z a0 hw [] b25_0 b24_0 T25.heap n0 Z25 Q25_2) hZ (hw _ (List.mem_of_getElem? (i := 77) rfl)) (hw _ (List.mem_of_getElem? (i := 36) rfl)) (by decide) (by decide)) q28a q28c (g := (mkF m 31 #[.val (.int p1), .val (.int p2), .val (.int p3), .val (.int p4), .val (.ref b24_0), .val (.ref b25_0)] [(.ref b25_0)])) rfl (by rw [hml]; rfl) (Steps.refl _) (argsL := []) (rest := []) (lenOf pd_11 rfl) rfl (by show 2 * 0 + _ ≤ _; exact Nat.le_of_eq rfl) (hb hby at_31) (fun _ _ => ⟨rfl, e27, (by decide : 8 + 0 ≤ _), (by decide : 44 + 0 ≤ _)⟩)
          dsimp only [Pt.U, Pt.locs, Pt.cells, Pt.slots] at X28 l28 y28 z28 st28 hQ28
          replace y28 : k28 = 8 := y28
          replace z28 : n28 = 44 := z28
          subst y28 z28
          obtain ⟨rfl, N28q, e28⟩ := hQ28
          have N28 : Fr n0 L28 := Eq.mpr (congrArg (Fr n0) l28) (Fr.app N26 N28q)
          refine Go.trans st28 ?_
          show Go p e below _ (T28.setTop (mkF m 34 #[.val (.int p1), .val (.int p2), .val (.int p3), .val (.int p4), .val (.ref b24_0), .val (.ref b25_0)] [(.ref b24_0)]))
          refine Go.step (fun t k => XS.aload X28.here hx rfl (hb hby at_34) rfl rfl k) ?_
          show Go p e below _ (T28.setTop (mkF m 36 #[.val (.int p1), .val (.int p2), .val (.int p3), .val (.int p4), .val (.ref b24_0), .val (.ref b25_0)] [(.ref b24_0), (.ref b24_0)]))
          refine Go.step (fun t k => Jvm.RoadKit.acmp (g := (mkF m 36 #[.val (.int p1), .val (.int p2), .val (.int p3), .val (.int p4), .val (.ref b24_0), .val (.ref b25_0)] [(.ref b24_0), (.ref b24_0)])) X28 hx rfl rfl rfl (pc0 := 36) (pc' := 39) (same := true) rfl (hb hby at_36) rfl (decide_eq_true rfl) (by decide) (by decide) k) ?_
          show Go p e below _ (T28.setTop (mkF m 39 #[.val (.int p1), .val (.int p2), .val (.int p3), .val (.int p4), .val (.ref b24_0), .val (.ref b25_0)] []))
          refine Go.step (fun t k => XS.iconst X28.here hx rfl (hb hby at_39)  k) ?_
          show Go p e below _ (T28.setTop (mkF m 40 #[.val (.int p1), .val (.int p2), .val (.int p3), .val (.int p4), .val (.ref b24_0), .val (.ref b25_0)] [(.int (1 : Int32))]))
          refine Go.step (fun t k => XS.goto X28.here hx rfl (pc0 := 40) (pc' := 44) rfl (hb hby at_40) (by decide) (by decide) k) ?_
          show Go p e below _ (T28.setTop (mkF m 44 #[.val (.int p1), .val (.int p2), .val (.int p3), .val (.int p4), .val (.ref b24_0), .val (.ref b25_0)] [(.int (1 : Int32))]))
          exact retWN X28 hx hS25 (by rw [e28]; exact hk25) Bd.notSynchronized Bd.returns (t := .boolean) (by simp) (z' := (1 : Int32)) rfl (hb hby at_44) ⟨rfl, N28⟩ (by decide) (by decide)
        · skip
          exact (k4 _ hc5 hc11 hc17 hc23).elim
theorem law_true (a b c d w : Int32) : f0 a b c d w = 1 := rfl
theorem fieldEv {t u : Term} {args : Array Value} {s : State} {C f d : String} (h : t.eval args s none [] s = u.eval args s none [] s) : (Term.field t C f d).eval args s none [] s = (Term.field u C f d).eval args s none [] s := by
  simp only [Term.eval, h]

set_option maxRecDepth 65536 in
set_option maxHeartbeats 40000000 in
theorem comes_1 {Post : Tables → Env → Array Value → State → Outcome → State → Prop} (hpost : ∀ tb e args s v u, (limb_1_1.after args s (.returned v) u = true ∧ limb_1_2.after args s (.returned v) u = true ∧ True) → Jvm.D.FramedW s (.returned v) u (Jvm.fieldLocs frame_1_writes args s ++ Jvm.arrayLocs frame_1_arrays args s ++ Jvm.staticLocs frame_1_statics s) 24 3200 → Post tb e args s (.returned v) u) :
    ArmFor flags0 classFile x code maxLocals ret World_1 tables_1 room_1 Calls_1 rest_1 Pre_1 Post := by
  intro l hfl _ _ p e ha hc hk s m args below hf hA hF happ hP
  obtain ⟨hcalls, hrest, hpre⟩ := hP
  obtain ⟨-, -, -, hnamed, -, -, -, hat⟩ := (Spec.applies_iff hf).mp happ
  obtain ⟨hg, hn⟩ := and_e (Cond.before_iff.mp (show (Jvm.Cond.and given_1 narrow_1).before args s = true from hpre))
  obtain ⟨g0, hg⟩ := and_e hg
  obtain ⟨ga0, hg⟩ := and_e hg
  obtain ⟨ga1, hg⟩ := and_e hg
  obtain ⟨ga2, hg⟩ := and_e hg
  have ga3 := hg
  obtain ⟨w0, w1, w2, w3, rfl⟩ : ∃ w0 w1 w2 w3 : Value, args = #[w0, w1, w2, w3] := by
    have hs : args.size = 4 := by simpa [Cond.value, given_1] using g0
    obtain ⟨L⟩ := args
    match L, hs with
    | [w0, w1, w2, w3], _ => exact ⟨w0, w1, w2, w3, rfl⟩
  have hw := fun d (hd : d ∈ tables_1) => atoms_spec (ws := Jvm.Cond.code x code maxLocals ret :: tables_1) hat d (List.mem_cons_of_mem _ hd)
  have hfit : Fit s := fun {y c} hc i hi => by
    obtain ⟨ha, rfl⟩ := Array.getElem?_eq_some_iff.mp hc
    have q := List.all_eq_true.mp ((Array.all_eq_true_iff_forall_mem.mp hF) _ (Array.getElem_mem ha)) i (List.mem_range.mpr hi)
    simpa [Array.getElem?_eq_getElem hi] using q
  obtain ⟨i0, ei0⟩ := is_v ga0
  obtain rfl : w0 = (.int i0) := Option.some.inj ei0
  obtain ⟨i1, ei1⟩ := is_v ga1
  obtain rfl : w1 = (.int i1) := Option.some.inj ei1
  obtain ⟨i2, ei2⟩ := is_v ga2
  obtain rfl : w2 = (.int i2) := Option.some.inj ei2
  obtain ⟨i3, ei3⟩ := is_v ga3
  obtain rfl : w3 = (.int i3) := Option.some.inj ei3
  obtain ⟨hsets, hown0⟩ := atoms_of _ (rest_1_c_eq ▸ (show rest_1_c.before _ s = true from hrest))
  obtain ⟨wC, eC⟩ := is_v (Cond.before_iff.mp (hsets _ (List.mem_of_getElem? (i := 1) rfl)))
  have SC : Sta s s.heap "java/lang/String" "COMPACT_STRINGS" "Z" (.int wC) := Sta.start eC (Or.inl (hsets _ (List.mem_of_getElem? (i := 0) rfl)))
  have hC : ¬ (wC = (0 : Int32)) := gotF (Cond.eq_ints eC (Term.int_eval (0))) (not_v (Cond.before_iff.mp (hsets _ (List.mem_of_getElem? (i := 2) rfl))))
  obtain ⟨n1, hn⟩ := and_e hn
  obtain ⟨n2, hn⟩ := and_e hn
  obtain ⟨n3, n4⟩ := and_e hn
  obtain ⟨oU, eU⟩ := exa_v n1
  obtain ⟨oV, eV⟩ := exa_v n2
  have SU : Sta s s.heap "com/example/menshen/menshen/core/Subject$Kind" "USER" "Lcom/example/menshen/menshen/core/Subject$Kind;" (.ref oU) := Sta.start eU (Or.inr ⟨(hw _ (List.mem_of_getElem? (i := 41) rfl)), (hw _ (List.mem_of_getElem? (i := 42) rfl))⟩)
  have SV : Sta s s.heap "com/example/menshen/menshen/core/Subject$Kind" "EVERYONE" "Lcom/example/menshen/menshen/core/Subject$Kind;" (.ref oV) := Sta.start eV (Or.inr ⟨(hw _ (List.mem_of_getElem? (i := 41) rfl)), (hw _ (List.mem_of_getElem? (i := 62) rfl))⟩)
  have hUV : oU ≠ oV := fun q => by
    have e1 := Cond.eq_int (Cond.before_iff.mpr n3) rfl
    have e2 := Cond.eq_int (Cond.before_iff.mpr n4) rfl
    have ee := fieldEv (C := "java/lang/Enum") (f := "ordinal") (d := "I") (eU.trans ((congrArg (fun z => some (Value.ref z)) q).trans eV.symm))
    have := (Option.some.inj (e1.symm.trans (ee.trans e2)))
    exact absurd (Value.int.inj this) (by decide)
  have hh0 : Jvm.Lit.constHeld s "java/lang/String" 7 := hcalls.1 ("java/lang/String", 7) (by simp [consts_1])
  obtain ⟨n, o, h1, h2, h3, v, L, rfl, hQ, hq⟩ := rm0 l s _ hw tables_1 i0 i1 i2 i3 oU oV wC s.heap s.heap.size (Nat.le_refl _) hh0 (hsets _ (List.mem_of_getElem? (i := 2) rfl)) (Old.start s) SU SV hUV hC SC p e ha hc hk s m _ below hf ((Spec.applies_iff_loose hf).mp happ).1 ⟨rfl, State.Warmed39.refl s, rfl, IB.start⟩ trivial
  obtain ⟨hv, N⟩ := hQ
  rw [law_true i0 i1 i2 i3] at hv
  subst hv
  refine ⟨n, _, h1, h2, h3, hpost _ _ _ _ _ _ ⟨Cond.after_iff.mpr rfl, Cond.after_iff.mpr (eq_i res_at (Term.int_eval (1)) rfl), trivial⟩ ⟨hq.1, hq.2.1, hq.2.2.1, (hq.2.2.2.sift fun y hy => Or.inr (N y hy)).mono (by decide) (by decide)⟩⟩
theorem main_1_1 : Claimed_1_1 := comes_1 fun _ _ _ _ _ _ h hF => ⟨h.1, hF⟩
theorem main_1_2 : Claimed_1_2 := comes_1 fun _ _ _ _ _ _ h hF => ⟨h.2.1, hF⟩
end Jvm.Pilot.@@N@@
namespace Jvm.Pilot.@@N@@
open Jvm Jvm.ClassFile Sem Op Lib Jvm.Free Jvm.Stand Jvm.Pilot.@@N@@.Jvm.D
/-! MADE BY PROGRAM (witnessworld.py) out of the Statement's table words and the real class files: 24 classes; the members and pool entries that the words name. The judged class is class 1, her method 2. -/
namespace start1
open Jvm.ClassFile
def u (s : String) : CpInfo := .utf8 (stringToUtf16 s)
/-- a pool by its gaps: so many unusable entries, then the entry; so many at the end -/
def gap : Nat → List CpInfo → List CpInfo
  | 0, r => r
  | n + 1, r => .unusable :: gap n r
def poolList (es : List (Nat × CpInfo)) (last : Nat) : List CpInfo := es.foldr (fun e r => gap e.1 (e.2 :: r)) (gap last [])
def pool (es : List (Nat × CpInfo)) (last : Nat) : Array CpInfo := ⟨poolList es last⟩
def fileOf (pool : Array CpInfo) (this : Nat) (attrs : Array Attribute := #[]) (ms : Array MethodInfo := #[]) (fl : Nat := 33) (sup : Nat := 0) (ifs : Array Nat := #[]) (fds : Array FieldInfo := #[]) : ClassFile where
  minorVersion := 0
  majorVersion := 65
  constantPool := pool
  accessFlags := fl
  thisClass := this
  superClass := sup
  interfaces := ifs
  fields := fds
  methods := ms
  attributes := attrs
def plain (name : String) (sup : Option ClassId) : Class where
  name := name
  kind := .ordinary
  loader := none
  accessFlags := 33
  super := sup
  interfaces := #[]
  cf := none
  fields := #[]
  methods := #[]
  instanceTypes := #[]
  staticTypes := #[]
  resolved := #[]
  callSites := []
  init := .initialized
  statics := none
  mirror := none

def pool0 : Array CpInfo := pool [(5, u "<init>"), (0, u "()V"), (1, .class_ 10), (1, u "java/lang/Object")] 113

def k0c0 : Code := { maxStack := 0, maxLocals := 1, code := object_method_1_code, exceptionTable := #[], attributes := #[] }
def k0m0 : Method := { name := "<init>", desc := "()V", sig := { parameters := [], returnType := none }, accessFlags := 1, code := some k0c0 }
/-- java/lang/Object -/
def k0 : Class := { plain "java/lang/Object" none with
  accessFlags := 33
  interfaces := #[]
  cf := some (fileOf pool0 8 #[] #[{ accessFlags := 1, nameIndex := 5, descriptorIndex := 6, attributes := #[] }] 33 0 #[] #[])
  fields := #[]
  methods := #[k0m0]
  instanceTypes := #[]
  staticTypes := #[]
  resolved := Array.replicate 124 none
  statics := none }

def pool1 : Array CpInfo := pool [(2, .class_ 4), (1, u "java/lang/Object"), (0, u "<init>"), (0, u "()V"), (0, .class_ 8), (0, u "java/lang/String"), (0, .methodref 7 10), (0, .nameAndType 5 11), (0, u "([C)V"), (0, .methodref 13 14), (0, .class_ 15), (0, .nameAndType 16 17), (0, u "com/example/menshen/menshen/core/SubjectUserPinLaw"), (0, u "draw"), (0, u "(IIII)Ljava/lang/String;"), (0, .methodref 19 20), (0, .class_ 21), (0, .nameAndType 22 23), (0, u "com/example/menshen/menshen/core/Subject"), (0, u "user"), (0, u "(Ljava/lang/String;)Lcom/example/menshen/menshen/core/Subject;"), (0, .methodref 19 25), (0, .nameAndType 26 27), (0, u "kind"), (0, u "()Lcom/example/menshen/menshen/core/Subject$Kind;"), (0, .fieldref 29 30), (0, .class_ 31), (0, .nameAndType 32 33), (0, u "com/example/menshen/menshen/core/Subject$Kind"), (0, u "USER"), (0, u "Lcom/example/menshen/menshen/core/Subject$Kind;"), (0, .methodref 19 35), (0, .nameAndType 36 37), (0, u "id"), (0, u "()Ljava/lang/String;"), (3, u "law"), (0, u "(IIII)Z")] 4

def k1m0 : Method := { name := "<init>", desc := "()V", sig := { parameters := [], returnType := none }, accessFlags := 1, code := none }
def k1c1 : Code := { maxStack := 3, maxLocals := 8, code := method_2_code, exceptionTable := #[], attributes := #[] }
def k1m1 : Method := { name := "draw", desc := "(IIII)Ljava/lang/String;", sig := { parameters := [.int, .int, .int, .int], returnType := some (.object "java/lang/String") }, accessFlags := 10, code := some k1c1 }
def k1c2 : Code := { maxStack := 4, maxLocals := 6, code := code, exceptionTable := #[], attributes := #[] }
def k1m2 : Method := { name := "law", desc := "(IIII)Z", sig := { parameters := [.int, .int, .int, .int], returnType := some .boolean }, accessFlags := 9, code := some k1c2 }
/-- com/example/menshen/menshen/core/SubjectUserPinLaw -/
def k1 : Class := { plain "com/example/menshen/menshen/core/SubjectUserPinLaw" (some 0) with
  accessFlags := 49
  interfaces := #[]
  cf := some (fileOf pool1 13 #[] #[{ accessFlags := 1, nameIndex := 5, descriptorIndex := 6, attributes := #[] }, { accessFlags := 10, nameIndex := 16, descriptorIndex := 17, attributes := #[] }, { accessFlags := 9, nameIndex := 41, descriptorIndex := 42, attributes := #[] }] 49 2 #[] #[])
  fields := #[]
  methods := #[k1m0, k1m1, k1m2]
  instanceTypes := #[]
  staticTypes := #[]
  resolved := Array.replicate 47 none
  statics := none }

def pool2 : Array CpInfo := pool [(1, .class_ 2), (0, u "java/io/Serializable"), (0, .class_ 4), (0, u "java/lang/Object")] 2

/-- java/io/Serializable -/
def k2 : Class := { plain "java/io/Serializable" (some 0) with
  accessFlags := 1537
  interfaces := #[]
  cf := some (fileOf pool2 1 #[] #[] 1537 3 #[] #[])
  fields := #[]
  methods := #[]
  instanceTypes := #[]
  staticTypes := #[]
  resolved := Array.replicate 7 none
  statics := none }

def pool3 : Array CpInfo := pool [(1, .class_ 2), (0, u "java/lang/Comparable"), (0, .class_ 4), (0, u "java/lang/Object")] 7

/-- java/lang/Comparable -/
def k3 : Class := { plain "java/lang/Comparable" (some 0) with
  accessFlags := 1537
  interfaces := #[]
  cf := some (fileOf pool3 1 #[] #[] 1537 3 #[] #[])
  fields := #[]
  methods := #[]
  instanceTypes := #[]
  staticTypes := #[]
  resolved := Array.replicate 12 none
  statics := none }

def pool4 : Array CpInfo := pool [(2, .class_ 4), (1, u "java/lang/CharSequence"), (42, .class_ 48), (0, u "java/lang/CharSequence$1CodePointIterator"), (10, .class_ 60), (0, u "java/lang/CharSequence$1CharIterator"), (5, .class_ 67), (0, u "java/lang/Object")] 63

/-- java/lang/CharSequence -/
def k4 : Class := { plain "java/lang/CharSequence" (some 0) with
  accessFlags := 1537
  interfaces := #[]
  cf := some (fileOf pool4 2 #[.nestMembers #[47, 59]] #[] 1537 66 #[] #[])
  fields := #[]
  methods := #[]
  instanceTypes := #[]
  staticTypes := #[]
  resolved := Array.replicate 131 none
  statics := none }

def pool5 : Array CpInfo := pool [(1, .class_ 2), (0, u "java/lang/constant/Constable"), (0, .class_ 4), (0, u "java/lang/Object")] 6

/-- java/lang/constant/Constable -/
def k5 : Class := { plain "java/lang/constant/Constable" (some 0) with
  accessFlags := 1537
  interfaces := #[]
  cf := some (fileOf pool5 1 #[] #[] 1537 3 #[] #[])
  fields := #[]
  methods := #[]
  instanceTypes := #[]
  staticTypes := #[]
  resolved := Array.replicate 11 none
  statics := none }

def pool6 : Array CpInfo := pool [(1, .class_ 2), (0, u "java/lang/constant/ConstantDesc"), (0, .class_ 4), (0, u "java/lang/Object")] 32

/-- java/lang/constant/ConstantDesc -/
def k6 : Class := { plain "java/lang/constant/ConstantDesc" (some 0) with
  accessFlags := 1537
  interfaces := #[]
  cf := some (fileOf pool6 1 #[] #[] 1537 3 #[] #[])
  fields := #[]
  methods := #[]
  instanceTypes := #[]
  staticTypes := #[]
  resolved := Array.replicate 37 none
  statics := none }

def pool7 : Array CpInfo := pool [(1, .methodref 2 3), (0, .class_ 4), (0, .nameAndType 5 6), (0, u "java/lang/Object"), (0, u "<init>"), (0, u "()V"), (0, .string 8), (0, u ""), (0, .fieldref 10 11), (0, .class_ 12), (0, .nameAndType 13 14), (0, u "java/lang/String"), (0, u "value"), (0, u "[B"), (0, .fieldref 10 16), (0, .nameAndType 17 18), (0, u "coder"), (0, u "B"), (2, u "hash"), (0, u "I"), (2, u "hashIsZero"), (0, u "Z"), (0, .methodref 10 28), (0, .nameAndType 5 29), (0, u "([CIILjava/lang/Void;)V"), (8, .fieldref 10 39), (0, .nameAndType 40 26), (0, u "COMPACT_STRINGS"), (1, .class_ 44), (1, u "java/lang/StringUTF16"), (0, u "compress"), (1, .methodref 42 48), (0, .nameAndType 49 50), (0, u "coderFromArrayLen"), (0, u "([BI)B"), (126, .methodref 42 178), (0, .nameAndType 45 179), (0, u "([CII)[B"), (395, .class_ 576), (0, u "java/lang/CharSequence"), (22, u "CASE_INSENSITIVE_ORDER"), (0, u "Ljava/util/Comparator;"), (409, u "([C)V"), (90, u "serialPersistentFields"), (0, u "[Ljava/io/ObjectStreamField;"), (0, .class_ 1104), (0, u "java/lang/String$CaseInsensitiveComparator"), (1, .class_ 1107), (0, u "java/io/Serializable"), (0, .class_ 1109), (0, u "java/lang/Comparable"), (0, .class_ 1111), (0, u "java/lang/constant/Constable"), (0, .class_ 1113), (0, u "java/lang/constant/ConstantDesc"), (2, u "serialVersionUID"), (0, u "J"), (3, u "REPL"), (0, u "C"), (2, u "LATIN1"), (1, u "UTF16")] 323

def k7m0 : Method := { name := "<init>", desc := "()V", sig := { parameters := [], returnType := none }, accessFlags := 1, code := none }
def k7c1 : Code := { maxStack := 5, maxLocals := 2, code := jdk_42_method_3_code, exceptionTable := #[], attributes := #[] }
def k7m1 : Method := { name := "<init>", desc := "([C)V", sig := { parameters := [(.array .char)], returnType := none }, accessFlags := 1, code := some k7c1 }
def k7c2 : Code := { maxStack := 4, maxLocals := 6, code := jdk_42_method_149_code, exceptionTable := #[], attributes := #[] }
def k7m2 : Method := { name := "<init>", desc := "([CIILjava/lang/Void;)V", sig := { parameters := [(.array .char), .int, .int, (.object "java/lang/Void")], returnType := none }, accessFlags := 2, code := some k7c2 }
/-- java/lang/String -/
def k7 : Class := { plain "java/lang/String" (some 0) with
  accessFlags := 49
  interfaces := #[2, 3, 4, 5, 6]
  cf := some (fileOf pool7 10 #[.nestMembers #[1103]] #[{ accessFlags := 1, nameIndex := 5, descriptorIndex := 6, attributes := #[] }, { accessFlags := 1, nameIndex := 5, descriptorIndex := 1010, attributes := #[] }, { accessFlags := 2, nameIndex := 5, descriptorIndex := 29, attributes := #[] }] 49 2 #[1106, 1108, 575, 1110, 1112] #[{ accessFlags := 18, nameIndex := 13, descriptorIndex := 14, attributes := #[] }, { accessFlags := 18, nameIndex := 17, descriptorIndex := 18, attributes := #[] }, { accessFlags := 2, nameIndex := 21, descriptorIndex := 22, attributes := #[] }, { accessFlags := 2, nameIndex := 25, descriptorIndex := 26, attributes := #[] }, { accessFlags := 26, nameIndex := 1116, descriptorIndex := 1117, attributes := #[] }, { accessFlags := 24, nameIndex := 40, descriptorIndex := 26, attributes := #[] }, { accessFlags := 26, nameIndex := 1101, descriptorIndex := 1102, attributes := #[] }, { accessFlags := 26, nameIndex := 1121, descriptorIndex := 1122, attributes := #[] }, { accessFlags := 25, nameIndex := 599, descriptorIndex := 600, attributes := #[] }, { accessFlags := 24, nameIndex := 1125, descriptorIndex := 18, attributes := #[] }, { accessFlags := 24, nameIndex := 1127, descriptorIndex := 18, attributes := #[] }])
  fields := #[{ name := "value", type := (.array .byte), accessFlags := 18, slot := 0, constantValue := 0 }, { name := "coder", type := .byte, accessFlags := 18, slot := 1, constantValue := 0 }, { name := "hash", type := .int, accessFlags := 2, slot := 2, constantValue := 0 }, { name := "hashIsZero", type := .boolean, accessFlags := 2, slot := 3, constantValue := 0 }, { name := "serialVersionUID", type := .long, accessFlags := 26, slot := 0, constantValue := 0 }, { name := "COMPACT_STRINGS", type := .boolean, accessFlags := 24, slot := 1, constantValue := 0 }, { name := "serialPersistentFields", type := (.array (.object "java/io/ObjectStreamField")), accessFlags := 26, slot := 2, constantValue := 0 }, { name := "REPL", type := .char, accessFlags := 26, slot := 3, constantValue := 0 }, { name := "CASE_INSENSITIVE_ORDER", type := (.object "java/util/Comparator"), accessFlags := 25, slot := 4, constantValue := 0 }, { name := "LATIN1", type := .byte, accessFlags := 24, slot := 5, constantValue := 0 }, { name := "UTF16", type := .byte, accessFlags := 24, slot := 6, constantValue := 0 }]
  methods := #[k7m0, k7m1, k7m2]
  instanceTypes := #[(.array .byte), .byte, .int, .boolean]
  staticTypes := #[.long, .boolean, (.array (.object "java/io/ObjectStreamField")), .char, (.object "java/util/Comparator"), .byte, .byte]
  resolved := Array.replicate 1451 none
  statics := some 0 }

def pool8 : Array CpInfo := pool [(6, .class_ 8), (1, u "java/lang/Object"), (0, u "<init>"), (0, u "()V"), (1, .class_ 14), (1, u "java/lang/StringUTF16"), (31, u "$assertionsDisabled"), (0, u "Z"), (13, u "HI_BYTE_SHIFT"), (0, u "I"), (2, u "LO_BYTE_SHIFT"), (49, .methodref 12 116), (0, .nameAndType 117 118), (0, u "compress"), (0, u "([CI[BII)I"), (3, u "([CII)[B"), (138, u "coderFromArrayLen"), (0, u "([BI)B"), (106, .class_ 371), (1, u "java/lang/StringUTF16$LinesSpliterator"), (58, u "MAX_LENGTH"), (196, .class_ 628), (0, u "java/lang/StringUTF16$CodePointsSpliterator"), (0, .class_ 630), (0, u "java/lang/StringUTF16$CharsSpliterator")] 4

def k8m0 : Method := { name := "<init>", desc := "()V", sig := { parameters := [], returnType := none }, accessFlags := 0, code := none }
def k8c1 : Code := { maxStack := 2, maxLocals := 2, code := jdk_52_method_15_code, exceptionTable := #[], attributes := #[] }
def k8m1 : Method := { name := "coderFromArrayLen", desc := "([BI)B", sig := { parameters := [(.array .byte), .int], returnType := some .byte }, accessFlags := 8, code := some k8c1 }
def k8c2 : Code := { maxStack := 5, maxLocals := 6, code := jdk_52_method_16_code, exceptionTable := #[], attributes := #[] }
def k8m2 : Method := { name := "compress", desc := "([CII)[B", sig := { parameters := [(.array .char), .int, .int], returnType := some (.array .byte) }, accessFlags := 9, code := some k8c2 }
def k8c3 : Code := { maxStack := 3, maxLocals := 7, code := jdk_52_method_21_code, exceptionTable := #[], attributes := #[] }
def k8m3 : Method := { name := "compress", desc := "([CI[BII)I", sig := { parameters := [(.array .char), .int, (.array .byte), .int, .int], returnType := some .int }, accessFlags := 9, code := some k8c3 }
/-- java/lang/StringUTF16 -/
def k8 : Class := { plain "java/lang/StringUTF16" (some 0) with
  accessFlags := 48
  interfaces := #[]
  cf := some (fileOf pool8 12 #[.nestMembers #[627, 629, 369]] #[{ accessFlags := 0, nameIndex := 9, descriptorIndex := 10, attributes := #[] }, { accessFlags := 8, nameIndex := 261, descriptorIndex := 262, attributes := #[] }, { accessFlags := 9, nameIndex := 117, descriptorIndex := 122, attributes := #[] }, { accessFlags := 9, nameIndex := 117, descriptorIndex := 118, attributes := #[] }] 48 6 #[] #[{ accessFlags := 26, nameIndex := 61, descriptorIndex := 62, attributes := #[] }, { accessFlags := 26, nameIndex := 65, descriptorIndex := 62, attributes := #[] }, { accessFlags := 24, nameIndex := 430, descriptorIndex := 62, attributes := #[] }, { accessFlags := 4120, nameIndex := 46, descriptorIndex := 47, attributes := #[] }])
  fields := #[{ name := "HI_BYTE_SHIFT", type := .int, accessFlags := 26, slot := 0, constantValue := 0 }, { name := "LO_BYTE_SHIFT", type := .int, accessFlags := 26, slot := 1, constantValue := 0 }, { name := "MAX_LENGTH", type := .int, accessFlags := 24, slot := 2, constantValue := 0 }, { name := "$assertionsDisabled", type := .boolean, accessFlags := 4120, slot := 3, constantValue := 0 }]
  methods := #[k8m0, k8m1, k8m2, k8m3]
  instanceTypes := #[]
  staticTypes := #[.int, .int, .int, .boolean]
  resolved := Array.replicate 635 none
  statics := none }

def pool9 : Array CpInfo := pool [(1, .methodref 2 3), (0, .class_ 4), (0, .nameAndType 5 6), (0, u "java/lang/Object"), (0, u "<init>"), (0, u "()V"), (0, .class_ 8), (0, u "java/lang/Record")] 13

def k9c0 : Code := { maxStack := 1, maxLocals := 1, code := jdk_30_method_1_code, exceptionTable := #[], attributes := #[] }
def k9m0 : Method := { name := "<init>", desc := "()V", sig := { parameters := [], returnType := none }, accessFlags := 4, code := some k9c0 }
/-- java/lang/Record -/
def k9 : Class := { plain "java/lang/Record" (some 0) with
  accessFlags := 1057
  interfaces := #[]
  cf := some (fileOf pool9 7 #[] #[{ accessFlags := 4, nameIndex := 5, descriptorIndex := 6, attributes := #[] }] 1057 2 #[] #[])
  fields := #[]
  methods := #[k9m0]
  instanceTypes := #[]
  staticTypes := #[]
  resolved := Array.replicate 22 none
  statics := none }

def pool10 : Array CpInfo := pool [(1, .methodref 2 3), (0, .class_ 4), (0, .nameAndType 5 6), (0, u "java/lang/Record"), (0, u "<init>"), (0, u "()V"), (0, .string 8), (0, u "kind"), (0, .methodref 10 11), (0, .class_ 12), (0, .nameAndType 13 14), (0, u "java/util/Objects"), (0, u "requireNonNull"), (0, u "(Ljava/lang/Object;Ljava/lang/String;)Ljava/lang/Object;"), (0, .fieldref 16 17), (0, .class_ 18), (0, .nameAndType 19 20), (0, u "com/example/menshen/menshen/core/Subject$Kind"), (0, u "EVERYONE"), (0, u "Lcom/example/menshen/menshen/core/Subject$Kind;"), (7, .fieldref 29 30), (0, .class_ 31), (0, .nameAndType 8 20), (0, u "com/example/menshen/menshen/core/Subject"), (0, .fieldref 29 33), (0, .nameAndType 34 35), (0, u "id"), (0, u "Ljava/lang/String;"), (0, .fieldref 16 37), (0, .nameAndType 38 20), (0, u "USER"), (0, .string 34), (0, .class_ 41), (0, u "java/lang/String"), (0, .methodref 29 43), (0, .nameAndType 5 44), (0, u "(Lcom/example/menshen/menshen/core/Subject$Kind;Ljava/lang/String;)V"), (7, u "()Ljava/lang/String;"), (6, u "Lcom/example/menshen/menshen/core/Subject;"), (58, u "user"), (0, u "(Ljava/lang/String;)Lcom/example/menshen/menshen/core/Subject;"), (5, u "()Lcom/example/menshen/menshen/core/Subject$Kind;")] 55

def k10c0 : Code := { maxStack := 3, maxLocals := 3, code := prog_28_method_1_code, exceptionTable := #[], attributes := #[] }
def k10m0 : Method := { name := "<init>", desc := "(Lcom/example/menshen/menshen/core/Subject$Kind;Ljava/lang/String;)V", sig := { parameters := [(.object "com/example/menshen/menshen/core/Subject$Kind"), (.object "java/lang/String")], returnType := none }, accessFlags := 1, code := some k10c0 }
def k10c1 : Code := { maxStack := 5, maxLocals := 1, code := prog_28_method_2_code, exceptionTable := #[], attributes := #[] }
def k10m1 : Method := { name := "user", desc := "(Ljava/lang/String;)Lcom/example/menshen/menshen/core/Subject;", sig := { parameters := [(.object "java/lang/String")], returnType := some (.object "com/example/menshen/menshen/core/Subject") }, accessFlags := 9, code := some k10c1 }
def k10c2 : Code := { maxStack := 1, maxLocals := 1, code := prog_28_method_7_code, exceptionTable := #[], attributes := #[] }
def k10m2 : Method := { name := "kind", desc := "()Lcom/example/menshen/menshen/core/Subject$Kind;", sig := { parameters := [], returnType := some (.object "com/example/menshen/menshen/core/Subject$Kind") }, accessFlags := 1, code := some k10c2 }
def k10c3 : Code := { maxStack := 1, maxLocals := 1, code := prog_28_method_8_code, exceptionTable := #[], attributes := #[] }
def k10m3 : Method := { name := "id", desc := "()Ljava/lang/String;", sig := { parameters := [], returnType := some (.object "java/lang/String") }, accessFlags := 1, code := some k10c3 }
/-- com/example/menshen/menshen/core/Subject -/
def k10 : Class := { plain "com/example/menshen/menshen/core/Subject" (some 9) with
  accessFlags := 49
  interfaces := #[]
  cf := some (fileOf pool10 29 #[.nestMembers #[16]] #[{ accessFlags := 1, nameIndex := 5, descriptorIndex := 44, attributes := #[] }, { accessFlags := 9, nameIndex := 118, descriptorIndex := 119, attributes := #[] }, { accessFlags := 1, nameIndex := 8, descriptorIndex := 125, attributes := #[] }, { accessFlags := 1, nameIndex := 34, descriptorIndex := 52, attributes := #[] }] 49 2 #[] #[{ accessFlags := 18, nameIndex := 8, descriptorIndex := 20, attributes := #[] }, { accessFlags := 18, nameIndex := 34, descriptorIndex := 35, attributes := #[] }, { accessFlags := 25, nameIndex := 19, descriptorIndex := 59, attributes := #[] }])
  fields := #[{ name := "kind", type := (.object "com/example/menshen/menshen/core/Subject$Kind"), accessFlags := 18, slot := 0, constantValue := 0 }, { name := "id", type := (.object "java/lang/String"), accessFlags := 18, slot := 1, constantValue := 0 }, { name := "EVERYONE", type := (.object "com/example/menshen/menshen/core/Subject"), accessFlags := 25, slot := 0, constantValue := 0 }]
  methods := #[k10m0, k10m1, k10m2, k10m3]
  instanceTypes := #[(.object "com/example/menshen/menshen/core/Subject$Kind"), (.object "java/lang/String")]
  staticTypes := #[(.object "com/example/menshen/menshen/core/Subject")]
  resolved := Array.replicate 181 none
  statics := none }

def pool11 : Array CpInfo := pool [(2, .class_ 4), (1, u "java/lang/Enum"), (0, u "name"), (0, u "Ljava/lang/String;"), (2, u "ordinal"), (0, u "I"), (1, .class_ 14), (1, u "java/lang/Object"), (4, u "hash"), (86, .class_ 108), (1, u "java/lang/Enum$EnumDesc"), (2, .class_ 112), (0, u "java/lang/constant/Constable"), (0, .class_ 114), (0, u "java/lang/Comparable"), (0, .class_ 116), (0, u "java/io/Serializable")] 87

/-- java/lang/Enum -/
def k11 : Class := { plain "java/lang/Enum" (some 0) with
  accessFlags := 1057
  interfaces := #[5, 3, 2]
  cf := some (fileOf pool11 2 #[.nestMembers #[106]] #[] 1057 12 #[111, 113, 115] #[{ accessFlags := 18, nameIndex := 5, descriptorIndex := 6, attributes := #[] }, { accessFlags := 18, nameIndex := 9, descriptorIndex := 10, attributes := #[] }, { accessFlags := 2, nameIndex := 19, descriptorIndex := 10, attributes := #[] }])
  fields := #[{ name := "name", type := (.object "java/lang/String"), accessFlags := 18, slot := 0, constantValue := 0 }, { name := "ordinal", type := .int, accessFlags := 18, slot := 1, constantValue := 0 }, { name := "hash", type := .int, accessFlags := 2, slot := 2, constantValue := 0 }]
  methods := #[]
  instanceTypes := #[(.object "java/lang/String"), .int, .int]
  staticTypes := #[]
  resolved := Array.replicate 204 none
  statics := none }

def pool12 : Array CpInfo := pool [(1, .class_ 2), (0, u "com/example/menshen/menshen/core/Subject$Kind"), (2, u "USER"), (0, u "Lcom/example/menshen/menshen/core/Subject$Kind;"), (2, u "GROUP"), (2, u "KEY"), (2, u "APP"), (2, u "EVERYONE"), (2, u "$VALUES"), (0, u "[Lcom/example/menshen/menshen/core/Subject$Kind;"), (6, .class_ 31), (1, u "java/lang/Enum"), (78, .class_ 111), (0, u "com/example/menshen/menshen/core/Subject")] 21

/-- com/example/menshen/menshen/core/Subject$Kind -/
def k12 : Class := { plain "com/example/menshen/menshen/core/Subject$Kind" (some 11) with
  accessFlags := 16433
  interfaces := #[]
  cf := some (fileOf pool12 1 #[.nestHost 110] #[] 16433 29 #[] #[{ accessFlags := 16409, nameIndex := 5, descriptorIndex := 6, attributes := #[] }, { accessFlags := 16409, nameIndex := 9, descriptorIndex := 6, attributes := #[] }, { accessFlags := 16409, nameIndex := 12, descriptorIndex := 6, attributes := #[] }, { accessFlags := 16409, nameIndex := 15, descriptorIndex := 6, attributes := #[] }, { accessFlags := 16409, nameIndex := 18, descriptorIndex := 6, attributes := #[] }, { accessFlags := 4122, nameIndex := 21, descriptorIndex := 22, attributes := #[] }])
  fields := #[{ name := "USER", type := (.object "com/example/menshen/menshen/core/Subject$Kind"), accessFlags := 16409, slot := 0, constantValue := 0 }, { name := "GROUP", type := (.object "com/example/menshen/menshen/core/Subject$Kind"), accessFlags := 16409, slot := 1, constantValue := 0 }, { name := "KEY", type := (.object "com/example/menshen/menshen/core/Subject$Kind"), accessFlags := 16409, slot := 2, constantValue := 0 }, { name := "APP", type := (.object "com/example/menshen/menshen/core/Subject$Kind"), accessFlags := 16409, slot := 3, constantValue := 0 }, { name := "EVERYONE", type := (.object "com/example/menshen/menshen/core/Subject$Kind"), accessFlags := 16409, slot := 4, constantValue := 0 }, { name := "$VALUES", type := (.array (.object "com/example/menshen/menshen/core/Subject$Kind")), accessFlags := 4122, slot := 5, constantValue := 0 }]
  methods := #[]
  instanceTypes := #[(.object "java/lang/String"), .int, .int]
  staticTypes := #[(.object "com/example/menshen/menshen/core/Subject$Kind"), (.object "com/example/menshen/menshen/core/Subject$Kind"), (.object "com/example/menshen/menshen/core/Subject$Kind"), (.object "com/example/menshen/menshen/core/Subject$Kind"), (.object "com/example/menshen/menshen/core/Subject$Kind"), (.array (.object "com/example/menshen/menshen/core/Subject$Kind"))]
  resolved := Array.replicate 133 none
  statics := some 1 }

def pool13 : Array CpInfo := pool [(2, .class_ 4), (1, u "java/lang/Object"), (0, u "<init>"), (0, u "()V"), (35, .class_ 44), (1, u "java/util/Objects"), (0, u "requireNonNull"), (48, u "(Ljava/lang/Object;Ljava/lang/String;)Ljava/lang/Object;")] 89

def k13m0 : Method := { name := "<init>", desc := "()V", sig := { parameters := [], returnType := none }, accessFlags := 2, code := none }
def k13c1 : Code := { maxStack := 3, maxLocals := 2, code := jdk_31_method_11_code, exceptionTable := #[], attributes := #[] }
def k13m1 : Method := { name := "requireNonNull", desc := "(Ljava/lang/Object;Ljava/lang/String;)Ljava/lang/Object;", sig := { parameters := [(.object "java/lang/Object"), (.object "java/lang/String")], returnType := some (.object "java/lang/Object") }, accessFlags := 9, code := some k13c1 }
/-- java/util/Objects -/
def k13 : Class := { plain "java/util/Objects" (some 0) with
  accessFlags := 49
  interfaces := #[]
  cf := some (fileOf pool13 42 #[] #[{ accessFlags := 2, nameIndex := 5, descriptorIndex := 6, attributes := #[] }, { accessFlags := 9, nameIndex := 45, descriptorIndex := 94, attributes := #[] }] 49 2 #[] #[])
  fields := #[]
  methods := #[k13m0, k13m1]
  instanceTypes := #[]
  staticTypes := #[]
  resolved := Array.replicate 184 none
  statics := none }

def pool14 : Array CpInfo := pool [(4, .class_ 6), (1, u "java/lang/Object"), (0, u "<init>"), (0, u "()V"), (5, .class_ 16), (1, u "java/lang/StringLatin1"), (104, u "$assertionsDisabled"), (0, u "Z"), (98, .class_ 223), (1, u "java/lang/StringLatin1$LinesSpliterator"), (166, .class_ 391), (0, u "java/lang/StringLatin1$CharsSpliterator")] 3

def k14m0 : Method := { name := "<init>", desc := "()V", sig := { parameters := [], returnType := none }, accessFlags := 0, code := none }
/-- java/lang/StringLatin1 -/
def k14 : Class := { plain "java/lang/StringLatin1" (some 0) with
  accessFlags := 48
  interfaces := #[]
  cf := some (fileOf pool14 14 #[.nestMembers #[390, 221]] #[{ accessFlags := 0, nameIndex := 7, descriptorIndex := 8, attributes := #[] }] 48 4 #[] #[{ accessFlags := 4120, nameIndex := 121, descriptorIndex := 122, attributes := #[] }])
  fields := #[{ name := "$assertionsDisabled", type := .boolean, accessFlags := 4120, slot := 0, constantValue := 0 }]
  methods := #[k14m0]
  instanceTypes := #[]
  staticTypes := #[.boolean]
  resolved := Array.replicate 395 none
  statics := none }

def pool15 : Array CpInfo := pool [(2, .class_ 4), (1, u "java/lang/Object"), (0, u "<init>"), (0, u "()V"), (17, .class_ 26), (1, u "jdk/internal/util/Preconditions"), (28, .class_ 56), (0, u "jdk/internal/util/Preconditions$4"), (57, .class_ 115), (0, u "jdk/internal/util/Preconditions$1"), (7, u "SIOOBE_FORMATTER"), (0, u "Ljava/util/function/BiFunction;"), (0, .class_ 126), (0, u "jdk/internal/util/Preconditions$2"), (3, u "AIOOBE_FORMATTER"), (0, .class_ 132), (0, u "jdk/internal/util/Preconditions$3"), (3, u "IOOBE_FORMATTER")] 57

def k15m0 : Method := { name := "<init>", desc := "()V", sig := { parameters := [], returnType := none }, accessFlags := 1, code := none }
/-- jdk/internal/util/Preconditions -/
def k15 : Class := { plain "jdk/internal/util/Preconditions" (some 0) with
  accessFlags := 33
  interfaces := #[]
  cf := some (fileOf pool15 24 #[.nestMembers #[55, 131, 125, 114]] #[{ accessFlags := 1, nameIndex := 5, descriptorIndex := 6, attributes := #[] }] 33 2 #[] #[{ accessFlags := 25, nameIndex := 123, descriptorIndex := 124, attributes := #[] }, { accessFlags := 25, nameIndex := 130, descriptorIndex := 124, attributes := #[] }, { accessFlags := 25, nameIndex := 136, descriptorIndex := 124, attributes := #[] }])
  fields := #[{ name := "SIOOBE_FORMATTER", type := (.object "java/util/function/BiFunction"), accessFlags := 25, slot := 0, constantValue := 0 }, { name := "AIOOBE_FORMATTER", type := (.object "java/util/function/BiFunction"), accessFlags := 25, slot := 1, constantValue := 0 }, { name := "IOOBE_FORMATTER", type := (.object "java/util/function/BiFunction"), accessFlags := 25, slot := 2, constantValue := 0 }]
  methods := #[k15m0]
  instanceTypes := #[]
  staticTypes := #[(.object "java/util/function/BiFunction"), (.object "java/util/function/BiFunction"), (.object "java/util/function/BiFunction")]
  resolved := Array.replicate 194 none
  statics := some 2 }

def pool16 : Array CpInfo := pool [(9, u "<init>"), (6, .class_ 18), (1, u "java/lang/Object"), (0, u "()V"), (1, .class_ 23), (1, u "jdk/internal/util/ArraysSupport"), (0, u "LOG2_ARRAY_LONG_INDEX_SCALE"), (0, u "I"), (2, u "U"), (0, u "Ljdk/internal/misc/Unsafe;"), (8, u "BIG_ENDIAN"), (0, u "Z"), (8, u "LOG2_BYTE_BIT_SIZE"), (4, u "LOG2_ARRAY_INT_INDEX_SCALE"), (54, u "JLA"), (0, u "Ljdk/internal/access/JavaLangAccess;"), (11, u "LOG2_ARRAY_BOOLEAN_INDEX_SCALE"), (9, u "LOG2_ARRAY_BYTE_INDEX_SCALE"), (5, u "LOG2_ARRAY_CHAR_INDEX_SCALE"), (5, u "LOG2_ARRAY_SHORT_INDEX_SCALE"), (18, u "LOG2_ARRAY_FLOAT_INDEX_SCALE"), (24, u "LOG2_ARRAY_DOUBLE_INDEX_SCALE"), (89, u "T_BOOLEAN"), (2, u "T_CHAR"), (1, u "T_FLOAT"), (1, u "T_DOUBLE"), (1, u "T_BYTE"), (1, u "T_SHORT"), (1, u "T_INT"), (1, u "T_LONG"), (1, u "SOFT_MAX_ARRAY_LENGTH")] 83

def k16m0 : Method := { name := "<init>", desc := "()V", sig := { parameters := [], returnType := none }, accessFlags := 2, code := none }
/-- jdk/internal/util/ArraysSupport -/
def k16 : Class := { plain "jdk/internal/util/ArraysSupport" (some 0) with
  accessFlags := 33
  interfaces := #[]
  cf := some (fileOf pool16 21 #[] #[{ accessFlags := 2, nameIndex := 9, descriptorIndex := 19, attributes := #[] }] 33 16 #[] #[{ accessFlags := 24, nameIndex := 28, descriptorIndex := 29, attributes := #[] }, { accessFlags := 26, nameIndex := 38, descriptorIndex := 39, attributes := #[] }, { accessFlags := 25, nameIndex := 121, descriptorIndex := 25, attributes := #[] }, { accessFlags := 25, nameIndex := 131, descriptorIndex := 25, attributes := #[] }, { accessFlags := 25, nameIndex := 137, descriptorIndex := 25, attributes := #[] }, { accessFlags := 25, nameIndex := 143, descriptorIndex := 25, attributes := #[] }, { accessFlags := 25, nameIndex := 53, descriptorIndex := 25, attributes := #[] }, { accessFlags := 25, nameIndex := 24, descriptorIndex := 25, attributes := #[] }, { accessFlags := 25, nameIndex := 162, descriptorIndex := 25, attributes := #[] }, { accessFlags := 25, nameIndex := 187, descriptorIndex := 25, attributes := #[] }, { accessFlags := 26, nameIndex := 48, descriptorIndex := 25, attributes := #[] }, { accessFlags := 25, nameIndex := 277, descriptorIndex := 25, attributes := #[] }, { accessFlags := 25, nameIndex := 280, descriptorIndex := 25, attributes := #[] }, { accessFlags := 25, nameIndex := 282, descriptorIndex := 25, attributes := #[] }, { accessFlags := 25, nameIndex := 284, descriptorIndex := 25, attributes := #[] }, { accessFlags := 25, nameIndex := 286, descriptorIndex := 25, attributes := #[] }, { accessFlags := 25, nameIndex := 288, descriptorIndex := 25, attributes := #[] }, { accessFlags := 25, nameIndex := 290, descriptorIndex := 25, attributes := #[] }, { accessFlags := 25, nameIndex := 292, descriptorIndex := 25, attributes := #[] }, { accessFlags := 26, nameIndex := 108, descriptorIndex := 109, attributes := #[] }, { accessFlags := 25, nameIndex := 294, descriptorIndex := 25, attributes := #[] }])
  fields := #[{ name := "U", type := (.object "jdk/internal/misc/Unsafe"), accessFlags := 24, slot := 0, constantValue := 0 }, { name := "BIG_ENDIAN", type := .boolean, accessFlags := 26, slot := 1, constantValue := 0 }, { name := "LOG2_ARRAY_BOOLEAN_INDEX_SCALE", type := .int, accessFlags := 25, slot := 2, constantValue := 0 }, { name := "LOG2_ARRAY_BYTE_INDEX_SCALE", type := .int, accessFlags := 25, slot := 3, constantValue := 0 }, { name := "LOG2_ARRAY_CHAR_INDEX_SCALE", type := .int, accessFlags := 25, slot := 4, constantValue := 0 }, { name := "LOG2_ARRAY_SHORT_INDEX_SCALE", type := .int, accessFlags := 25, slot := 5, constantValue := 0 }, { name := "LOG2_ARRAY_INT_INDEX_SCALE", type := .int, accessFlags := 25, slot := 6, constantValue := 0 }, { name := "LOG2_ARRAY_LONG_INDEX_SCALE", type := .int, accessFlags := 25, slot := 7, constantValue := 0 }, { name := "LOG2_ARRAY_FLOAT_INDEX_SCALE", type := .int, accessFlags := 25, slot := 8, constantValue := 0 }, { name := "LOG2_ARRAY_DOUBLE_INDEX_SCALE", type := .int, accessFlags := 25, slot := 9, constantValue := 0 }, { name := "LOG2_BYTE_BIT_SIZE", type := .int, accessFlags := 26, slot := 10, constantValue := 0 }, { name := "T_BOOLEAN", type := .int, accessFlags := 25, slot := 11, constantValue := 0 }, { name := "T_CHAR", type := .int, accessFlags := 25, slot := 12, constantValue := 0 }, { name := "T_FLOAT", type := .int, accessFlags := 25, slot := 13, constantValue := 0 }, { name := "T_DOUBLE", type := .int, accessFlags := 25, slot := 14, constantValue := 0 }, { name := "T_BYTE", type := .int, accessFlags := 25, slot := 15, constantValue := 0 }, { name := "T_SHORT", type := .int, accessFlags := 25, slot := 16, constantValue := 0 }, { name := "T_INT", type := .int, accessFlags := 25, slot := 17, constantValue := 0 }, { name := "T_LONG", type := .int, accessFlags := 25, slot := 18, constantValue := 0 }, { name := "JLA", type := (.object "jdk/internal/access/JavaLangAccess"), accessFlags := 26, slot := 19, constantValue := 0 }, { name := "SOFT_MAX_ARRAY_LENGTH", type := .int, accessFlags := 25, slot := 20, constantValue := 0 }]
  methods := #[k16m0]
  instanceTypes := #[]
  staticTypes := #[(.object "jdk/internal/misc/Unsafe"), .boolean, .int, .int, .int, .int, .int, .int, .int, .int, .int, .int, .int, .int, .int, .int, .int, .int, .int, (.object "jdk/internal/access/JavaLangAccess"), .int]
  resolved := Array.replicate 378 none
  statics := none }

def pool17 : Array CpInfo := pool [(1, u "java/lang/Cloneable"), (0, .class_ 1), (0, u "java/lang/Object"), (0, .class_ 3)] 3

/-- java/lang/Cloneable -/
def k17 : Class := { plain "java/lang/Cloneable" (some 0) with
  accessFlags := 1537
  interfaces := #[]
  cf := some (fileOf pool17 2 #[] #[] 1537 4 #[] #[])
  fields := #[]
  methods := #[]
  instanceTypes := #[]
  staticTypes := #[]
  resolved := Array.replicate 8 none
  statics := none }

/-- the primitive byte -/
def k18 : Class := { plain "byte" none with kind := .primitive 'B', accessFlags := 0x411 }
/-- [B -/
def k19 : Class := { plain "[B" (some 0) with kind := .array 18 .byte, interfaces := #[17, 2], accessFlags := 1041 }

/-- the primitive char -/
def k20 : Class := { plain "char" none with kind := .primitive 'C', accessFlags := 0x411 }
/-- [C -/
def k21 : Class := { plain "[C" (some 0) with kind := .array 20 .char, interfaces := #[17, 2], accessFlags := 1041 }

/-- the primitive int -/
def k22 : Class := { plain "int" none with kind := .primitive 'I', accessFlags := 0x411 }
/-- [I -/
def k23 : Class := { plain "[I" (some 0) with kind := .array 22 .int, interfaces := #[17, 2], accessFlags := 1041 }

def heap : Heap := #[{ cls := 7, slots := #[.long 0, .int 1, .null, .int 0, .null, .int 0, .int 0], vm := .statics 7 },
  { cls := 12, slots := #[.ref 3, .null, .null, .null, .ref 4, .null], vm := .statics 12 },
  { cls := 15, slots := #[.null, .null, .null], vm := .statics 15 },
  { cls := 12, slots := #[.null, .int 0, .int 0], vm := .none },
  { cls := 12, slots := #[.null, .int 4, .int 0], vm := .none }]
def classes : Array Class := #[k0, k1, k2, k3, k4, k5, k6, k7, k8, k9, k10, k11, k12, k13, k14, k15, k16, k17, k18, k19, k20, k21, k22, k23]
def interned : List (Array UInt16 × Addr) := []
def slotsUsed : Nat := 22
def theMethod : MethodId := ⟨1, 2⟩
def args0 : Array Value := #[.int 65, .int 66, .int 67, .int 2]
def aboutOver (below : List Frame) : State where
  vm := { classes := classes, interned := interned.toArray }
  heap := heap
  slotsUsed := slotsUsed
  threads := #[{ frames := .invoking theMethod args0 :: below }]
def below0 : List Frame := [.native { method := ⟨0, 0⟩, args := #[] }]
def about1 : State := aboutOver below0
def p0 : Program := .bare "" "" ""
def e0 : Env := launch0.env 0 0 0
theorem w_frames : about1.frames = Frame.invoking theMethod args0 :: below0 := rfl
set_option maxRecDepth 65536 in
theorem w_args : argsFit about1.vm theMethod args0 = true := by decide +kernel
set_option maxRecDepth 65536 in
theorem w_heap : heapFits about1 = true := by decide +kernel
set_option maxRecDepth 65536 in
theorem w_runnable : about1.curStatus? = some .runnable := by decide +kernel
set_option maxRecDepth 65536 in
theorem w_alone : about1.alone = true := by decide +kernel
set_option maxRecDepth 65536 in
theorem w_named : about1.methodNamed? x = some theMethod := by decide +kernel
set_option maxRecDepth 65536 in
theorem w_hears : about1.hears theMethod below0 = true := by decide +kernel
set_option maxRecDepth 65536 in
theorem w_ripe : about1.ripe theMethod args0 below0 = true := by decide +kernel
theorem w_running : about1.status = .running := rfl
set_option maxRecDepth 65536 in
theorem w_room : about1.hasRoom e0.platform room_1 = true :=
  launch0.hasRoom_least _ room_1 (by decide +kernel) (by decide +kernel) (by decide +kernel) (by decide +kernel) (by decide +kernel) (by decide +kernel)
theorem allAtoms_all (ts : List Jvm.Cond) (a : Array Jvm.Value) (st : Jvm.State) : (allAtoms ts).before a st = ts.all (fun c => c.before a st) := by
  induction ts with
  | nil => rfl
  | cons c t ih =>
    show (Jvm.Cond.and c (allAtoms t)).before a st = _
    rw [Jvm.Cond.before_and, ih, List.all_cons]
def words1 : List Jvm.Cond := Jvm.Cond.code x code maxLocals ret :: tables_1
/-- a 'code' word, met by the world's own term for the bytes: nothing is compared byte by byte -/
theorem code_word {y : MethodName} {bytes : ByteArray} {mx : Nat} {rt : Option FieldType} {a : Array Value} {s : State} {m : MethodId} {meth : Method} {c : Code} (h1 : s.methodNamed? y = some m) (h2 : s.vm.method? m = some meth) (h3 : meth.code = some c) (h4 : c.code = bytes)
    (h5 : (c.maxLocals == mx && c.exceptionTable.isEmpty && decide (c.maxStack ≤ mostOperands) && decide (meth.sig.returnType = rt) && !meth.locks && decide (parseMethodDescriptor y.desc = some meth.sig)) = true) : (Jvm.Cond.code y bytes mx rt).before a s = true := by
  simp only [Bool.and_eq_true, beq_iff_eq, Bool.not_eq_true', decide_eq_true_eq] at h5
  obtain ⟨⟨⟨⟨⟨g1, g2⟩, g3⟩, g4⟩, g5⟩, g6⟩ := h5
  simp [Cond.before, Cond.holds, Cond.value, h1, h2, h3, h4, g1, g2, g3, g4, g5, g6]
def isCode : Jvm.Cond → Bool
  | .code _ _ _ _ => true
  | _ => false
theorem all_split {L : List Jvm.Cond} {P : Jvm.Cond → Bool} (h1 : L.all (fun c => isCode c || P c) = true) (h2 : ∀ c ∈ L.filter isCode, P c = true) : L.all P = true := by
  refine List.all_eq_true.mpr fun c hc => ?_
  have h := List.all_eq_true.mp h1 c hc
  rcases Bool.eq_false_or_eq_true (isCode c) with hi | hi
  · exact h2 c (List.mem_filter.mpr ⟨hc, hi⟩)
  · simpa [hi] using h
set_option maxRecDepth 65536 in
theorem w_c0 : (Jvm.Cond.code x code maxLocals ret).before args0 about1 = true := code_word (m := ⟨1, 2⟩) (meth := k1m2) (c := k1c2) (by decide +kernel) rfl rfl rfl (by decide +kernel)
set_option maxRecDepth 65536 in
theorem w_c1 : (Jvm.Cond.code ({ cls := "com/example/menshen/menshen/core/SubjectUserPinLaw", name := "draw", desc := "(IIII)Ljava/lang/String;" } : Jvm.MethodName) method_2_code (8 : Nat) (Option.some (Jvm.ClassFile.FieldType.object "java/lang/String"))).before args0 about1 = true := code_word (m := ⟨1, 1⟩) (meth := k1m1) (c := k1c1) (by decide +kernel) rfl rfl rfl (by decide +kernel)
set_option maxRecDepth 65536 in
theorem w_c2 : (Jvm.Cond.code ({ cls := "java/lang/String", name := "<init>", desc := "([C)V" } : Jvm.MethodName) jdk_42_method_3_code (2 : Nat) (Option.none : Option Jvm.ClassFile.FieldType)).before args0 about1 = true := code_word (m := ⟨7, 1⟩) (meth := k7m1) (c := k7c1) (by decide +kernel) rfl rfl rfl (by decide +kernel)
set_option maxRecDepth 65536 in
theorem w_c3 : (Jvm.Cond.code ({ cls := "java/lang/String", name := "<init>", desc := "([CIILjava/lang/Void;)V" } : Jvm.MethodName) jdk_42_method_149_code (6 : Nat) (Option.none : Option Jvm.ClassFile.FieldType)).before args0 about1 = true := code_word (m := ⟨7, 2⟩) (meth := k7m2) (c := k7c2) (by decide +kernel) rfl rfl rfl (by decide +kernel)
set_option maxRecDepth 65536 in
theorem w_c4 : (Jvm.Cond.code ({ cls := "java/lang/Object", name := "<init>", desc := "()V" } : Jvm.MethodName) object_method_1_code (1 : Nat) (Option.none : Option Jvm.ClassFile.FieldType)).before args0 about1 = true := code_word (m := ⟨0, 0⟩) (meth := k0m0) (c := k0c0) (by decide +kernel) rfl rfl rfl (by decide +kernel)
set_option maxRecDepth 65536 in
theorem w_c5 : (Jvm.Cond.code ({ cls := "java/lang/StringUTF16", name := "compress", desc := "([CII)[B" } : Jvm.MethodName) jdk_52_method_16_code (6 : Nat) (Option.some (Jvm.ClassFile.FieldType.array Jvm.ClassFile.FieldType.byte))).before args0 about1 = true := code_word (m := ⟨8, 2⟩) (meth := k8m2) (c := k8c2) (by decide +kernel) rfl rfl rfl (by decide +kernel)
set_option maxRecDepth 65536 in
theorem w_c6 : (Jvm.Cond.code ({ cls := "java/lang/StringUTF16", name := "compress", desc := "([CI[BII)I" } : Jvm.MethodName) jdk_52_method_21_code (7 : Nat) (Option.some Jvm.ClassFile.FieldType.int)).before args0 about1 = true := code_word (m := ⟨8, 3⟩) (meth := k8m3) (c := k8c3) (by decide +kernel) rfl rfl rfl (by decide +kernel)
set_option maxRecDepth 65536 in
theorem w_c7 : (Jvm.Cond.code ({ cls := "java/lang/StringUTF16", name := "coderFromArrayLen", desc := "([BI)B" } : Jvm.MethodName) jdk_52_method_15_code (2 : Nat) (Option.some Jvm.ClassFile.FieldType.byte)).before args0 about1 = true := code_word (m := ⟨8, 1⟩) (meth := k8m1) (c := k8c1) (by decide +kernel) rfl rfl rfl (by decide +kernel)
set_option maxRecDepth 65536 in
theorem w_c8 : (Jvm.Cond.code ({ cls := "com/example/menshen/menshen/core/Subject", name := "user", desc := "(Ljava/lang/String;)Lcom/example/menshen/menshen/core/Subject;" } : Jvm.MethodName) prog_28_method_2_code (1 : Nat) (Option.some (Jvm.ClassFile.FieldType.object "com/example/menshen/menshen/core/Subject"))).before args0 about1 = true := code_word (m := ⟨10, 1⟩) (meth := k10m1) (c := k10c1) (by decide +kernel) rfl rfl rfl (by decide +kernel)
set_option maxRecDepth 65536 in
theorem w_c9 : (Jvm.Cond.code ({ cls := "java/util/Objects", name := "requireNonNull", desc := "(Ljava/lang/Object;Ljava/lang/String;)Ljava/lang/Object;" } : Jvm.MethodName) jdk_31_method_11_code (2 : Nat) (Option.some (Jvm.ClassFile.FieldType.object "java/lang/Object"))).before args0 about1 = true := code_word (m := ⟨13, 1⟩) (meth := k13m1) (c := k13c1) (by decide +kernel) rfl rfl rfl (by decide +kernel)
set_option maxRecDepth 65536 in
theorem w_c10 : (Jvm.Cond.code ({ cls := "com/example/menshen/menshen/core/Subject", name := "<init>", desc := "(Lcom/example/menshen/menshen/core/Subject$Kind;Ljava/lang/String;)V" } : Jvm.MethodName) prog_28_method_1_code (3 : Nat) (Option.none : Option Jvm.ClassFile.FieldType)).before args0 about1 = true := code_word (m := ⟨10, 0⟩) (meth := k10m0) (c := k10c0) (by decide +kernel) rfl rfl rfl (by decide +kernel)
set_option maxRecDepth 65536 in
theorem w_c11 : (Jvm.Cond.code ({ cls := "java/lang/Record", name := "<init>", desc := "()V" } : Jvm.MethodName) jdk_30_method_1_code (1 : Nat) (Option.none : Option Jvm.ClassFile.FieldType)).before args0 about1 = true := code_word (m := ⟨9, 0⟩) (meth := k9m0) (c := k9c0) (by decide +kernel) rfl rfl rfl (by decide +kernel)
set_option maxRecDepth 65536 in
theorem w_c12 : (Jvm.Cond.code ({ cls := "com/example/menshen/menshen/core/Subject", name := "kind", desc := "()Lcom/example/menshen/menshen/core/Subject$Kind;" } : Jvm.MethodName) prog_28_method_7_code (1 : Nat) (Option.some (Jvm.ClassFile.FieldType.object "com/example/menshen/menshen/core/Subject$Kind"))).before args0 about1 = true := code_word (m := ⟨10, 2⟩) (meth := k10m2) (c := k10c2) (by decide +kernel) rfl rfl rfl (by decide +kernel)
set_option maxRecDepth 65536 in
theorem w_c13 : (Jvm.Cond.code ({ cls := "com/example/menshen/menshen/core/Subject", name := "id", desc := "()Ljava/lang/String;" } : Jvm.MethodName) prog_28_method_8_code (1 : Nat) (Option.some (Jvm.ClassFile.FieldType.object "java/lang/String"))).before args0 about1 = true := code_word (m := ⟨10, 3⟩) (meth := k10m3) (c := k10c3) (by decide +kernel) rfl rfl rfl (by decide +kernel)
def codes1 : List Jvm.Cond := [Jvm.Cond.code x code maxLocals ret, Jvm.Cond.code ({ cls := "com/example/menshen/menshen/core/SubjectUserPinLaw", name := "draw", desc := "(IIII)Ljava/lang/String;" } : Jvm.MethodName) method_2_code (8 : Nat) (Option.some (Jvm.ClassFile.FieldType.object "java/lang/String")), Jvm.Cond.code ({ cls := "java/lang/String", name := "<init>", desc := "([C)V" } : Jvm.MethodName) jdk_42_method_3_code (2 : Nat) (Option.none : Option Jvm.ClassFile.FieldType), Jvm.Cond.code ({ cls := "java/lang/String", name := "<init>", desc := "([CIILjava/lang/Void;)V" } : Jvm.MethodName) jdk_42_method_149_code (6 : Nat) (Option.none : Option Jvm.ClassFile.FieldType), Jvm.Cond.code ({ cls := "java/lang/Object", name := "<init>", desc := "()V" } : Jvm.MethodName) object_method_1_code (1 : Nat) (Option.none : Option Jvm.ClassFile.FieldType), Jvm.Cond.code ({ cls := "java/lang/StringUTF16", name := "compress", desc := "([CII)[B" } : Jvm.MethodName) jdk_52_method_16_code (6 : Nat) (Option.some (Jvm.ClassFile.FieldType.array Jvm.ClassFile.FieldType.byte)), Jvm.Cond.code ({ cls := "java/lang/StringUTF16", name := "compress", desc := "([CI[BII)I" } : Jvm.MethodName) jdk_52_method_21_code (7 : Nat) (Option.some Jvm.ClassFile.FieldType.int), Jvm.Cond.code ({ cls := "java/lang/StringUTF16", name := "coderFromArrayLen", desc := "([BI)B" } : Jvm.MethodName) jdk_52_method_15_code (2 : Nat) (Option.some Jvm.ClassFile.FieldType.byte), Jvm.Cond.code ({ cls := "com/example/menshen/menshen/core/Subject", name := "user", desc := "(Ljava/lang/String;)Lcom/example/menshen/menshen/core/Subject;" } : Jvm.MethodName) prog_28_method_2_code (1 : Nat) (Option.some (Jvm.ClassFile.FieldType.object "com/example/menshen/menshen/core/Subject")), Jvm.Cond.code ({ cls := "java/util/Objects", name := "requireNonNull", desc := "(Ljava/lang/Object;Ljava/lang/String;)Ljava/lang/Object;" } : Jvm.MethodName) jdk_31_method_11_code (2 : Nat) (Option.some (Jvm.ClassFile.FieldType.object "java/lang/Object")), Jvm.Cond.code ({ cls := "com/example/menshen/menshen/core/Subject", name := "<init>", desc := "(Lcom/example/menshen/menshen/core/Subject$Kind;Ljava/lang/String;)V" } : Jvm.MethodName) prog_28_method_1_code (3 : Nat) (Option.none : Option Jvm.ClassFile.FieldType), Jvm.Cond.code ({ cls := "java/lang/Record", name := "<init>", desc := "()V" } : Jvm.MethodName) jdk_30_method_1_code (1 : Nat) (Option.none : Option Jvm.ClassFile.FieldType), Jvm.Cond.code ({ cls := "com/example/menshen/menshen/core/Subject", name := "kind", desc := "()Lcom/example/menshen/menshen/core/Subject$Kind;" } : Jvm.MethodName) prog_28_method_7_code (1 : Nat) (Option.some (Jvm.ClassFile.FieldType.object "com/example/menshen/menshen/core/Subject$Kind")), Jvm.Cond.code ({ cls := "com/example/menshen/menshen/core/Subject", name := "id", desc := "()Ljava/lang/String;" } : Jvm.MethodName) prog_28_method_8_code (1 : Nat) (Option.some (Jvm.ClassFile.FieldType.object "java/lang/String"))]
set_option maxRecDepth 65536 in
theorem codes_eq : words1.filter isCode = codes1 := rfl
theorem w_codes : ∀ c ∈ words1.filter isCode, c.before args0 about1 = true := by
  rw [codes_eq]
  intro c hc
  simp only [codes1, List.mem_cons, List.not_mem_nil, or_false] at hc
  rcases hc with rfl | rfl | rfl | rfl | rfl | rfl | rfl | rfl | rfl | rfl | rfl | rfl | rfl | rfl
  · exact w_c0
  · exact w_c1
  · exact w_c2
  · exact w_c3
  · exact w_c4
  · exact w_c5
  · exact w_c6
  · exact w_c7
  · exact w_c8
  · exact w_c9
  · exact w_c10
  · exact w_c11
  · exact w_c12
  · exact w_c13
set_option maxRecDepth 65536 in
theorem w_t1 : (words1.take 24).all (fun c => isCode c || c.before args0 about1) = true := by decide +kernel
set_option maxRecDepth 65536 in
theorem w_t2 : ((words1.drop 24).take 24).all (fun c => isCode c || c.before args0 about1) = true := by decide +kernel
set_option maxRecDepth 65536 in
theorem w_t3 : (((words1.drop 24).drop 24).take 24).all (fun c => isCode c || c.before args0 about1) = true := by decide +kernel
set_option maxRecDepth 65536 in
theorem w_t4 : (((words1.drop 24).drop 24).drop 24).all (fun c => isCode c || c.before args0 about1) = true := by decide +kernel
theorem w_tables : (allAtoms (Jvm.Cond.code x code maxLocals ret :: tables_1)).before args0 about1 = true := by
  rw [allAtoms_all]
  show words1.all (fun c => c.before args0 about1) = true
  refine all_split ?_ w_codes
  rw [← List.take_append_drop 24 words1, List.all_append, w_t1, ← List.take_append_drop 24 (words1.drop 24), List.all_append, w_t2, ← List.take_append_drop 24 ((words1.drop 24).drop 24), List.all_append, w_t3, w_t4]
  rfl
set_option maxRecDepth 65536 in
theorem w_rest : rest_1_c.before args0 about1 = true := by decide +kernel
set_option maxRecDepth 65536 in
theorem w_case : (Jvm.Cond.and given_1 narrow_1).before args0 about1 = true := by decide +kernel
set_option maxRecDepth 65536 in
theorem w_consts : constsHeld consts_1 about1 := Jvm.Lit.constsHeldB_iff.mp (by decide +kernel)
theorem w_applies : (headSpec (Jvm.Cond.code x code maxLocals ret :: tables_1) room_1).applies x e0.platform about1 = true :=
  (Spec.applies_iff w_frames).mpr ⟨w_running, w_runnable, w_alone, w_named, w_hears, w_ripe, w_room, w_tables⟩
theorem atStart : AtStart classFile x code maxLocals ret World_1 tables_1 room_1 Calls_1 rest_1 Pre_1 launch0 p0 e0 about1 theMethod args0 below0 :=
  ⟨lists_1, trivial, launch0.admits_env _ _ _, launch0.least_env, fairChoices_fair.cas, fairChoices_fair.clock, w_frames, w_args, w_heap, w_applies, ⟨w_consts, trivial⟩, w_rest, w_case⟩
end start1
theorem witness_1 : WitnessClaimed_1 := ⟨start1.p0, start1.e0, start1.about1, start1.theMethod, start1.args0, start1.below0, start1.atStart⟩
end Jvm.Pilot.@@N@@
