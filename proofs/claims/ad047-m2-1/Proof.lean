import JvmDerived
import JvmDerived.Pilot.@@N@@Statement
import JvmDerived.Pilot.@@N@@Code
set_option linter.unusedVariables false
set_option linter.unusedSimpArgs false
namespace Jvm.OwnKit
open Sem ClassFile Op Lib Jvm.Stand Jvm.Free Jvm.LawKit Jvm.RoadKit
/-- from S the run comes to a state of which Φ holds -/
def Go (p : Program) (e : Env) (below : List Frame) (Φ : State → Prop) (S : State) : Prop := ∃ u, Steps p.tables e below S u ∧ Φ u
theorem Go.step {p : Program} {e : Env} {below : List Frame} {Φ : State → Prop} {S S' : State} (h : ∀ t, Steps p.tables e below S' t → Steps p.tables e below S t) (k : Go p e below Φ S') : Go p e below Φ S := by
  obtain ⟨u, q, r⟩ := k
  exact ⟨u, h u q, r⟩
theorem Go.trans {p : Program} {e : Env} {below : List Frame} {Φ : State → Prop} {S S' : State} (h : Steps p.tables e below S S') (k : Go p e below Φ S') : Go p e below Φ S := by
  obtain ⟨u, q, r⟩ := k
  exact ⟨u, Steps.trans h q, r⟩
theorem Go.here {p : Program} {e : Env} {below : List Frame} {Φ : State → Prop} {S : State} (k : Φ S) : Go p e below Φ S := ⟨S, Steps.refl _, k⟩
/-- the end of a body -/
def FinQ (below : List Frame) (s : State) (Q : Option Value → Heap → List Loc → Prop) (k n : Nat) (u : State) : Prop :=
  ∃ o, u.status = .running ∧ Ended u below o ∧ ∃ v L, o = .returned v ∧ Q v u.heap L ∧ FrameEnd s o u L k n
theorem Go.done {p : Program} {e : Env} {below : List Frame} {s : State} {Q : Option Value → Heap → List Loc → Prop} {k n : Nat} {S : State} (h : Go p e below (FinQ below s Q k n) S) :
    ∃ s₂ o, Steps p.tables e below S s₂ ∧ s₂.status = .running ∧ Ended s₂ below o ∧ ∃ v L, o = .returned v ∧ Q v s₂.heap L ∧ FrameEnd s o s₂ L k n := by
  obtain ⟨u, q, o, r1, r2, r3⟩ := h
  exact ⟨u, o, q, r1, r2, r3⟩
theorem nameIt {α : Type} (P : α → Prop) (x : α) (h : ∀ z, z = x → P z) : P x := h x rfl
section New
variable {p : Program} {l : Launch} {e : Env} {R : Room} {s : State} {m : MethodId} {args : Array Value} {below : List Frame} {meth : Method} {c : Code} {T : State} {locs : List Loc} {cells slots : Nat}
/-- the run stands at the frame F, in a heap h -/
def AtF (p : Program) (l : Launch) (e : Env) (R : Room) (s : State) (m : MethodId) (args : Array Value) (below : List Frame) (meth : Method) (c : Code) (n0 cells slots : Nat) (h : Heap) (F : JFrame) (u : State) : Prop :=
  ∃ T' locs', u = T'.setTop F ∧ Stand p l e R s m args below meth c T' locs' cells slots ∧ Fr n0 locs' ∧ T'.heap = h
theorem retG {pc : Nat} {Ls : Array Slot} {w : Value} {t : FieldType} {i : Instr} {rest : List Value} {Q : Option Value → Heap → List Loc → Prop} {k n : Nat}
    (X : Stand p l e R s m args below meth c T locs cells slots) (hx : p.tables.exec = Jvm.exec) (hlocks : meth.locks = false) (hret : meth.sig.returnType = some t) (hn : narrow t w = w)
    (hi : (i = .ireturn ∧ (t = .int ∨ t = .boolean ∨ t = .byte ∨ t = .char ∨ t = .short) ∧ ∃ z, w = .int z) ∨ (i = .lreturn ∧ t = .long ∧ ∃ z, w = .long z) ∨ (i = .dreturn ∧ t = .double ∧ ∃ z, w = .double z) ∨ (i = .freturn ∧ t = .float ∧ ∃ z, w = .float z) ∨ (i = .areturn ∧ t.isReference = true ∧ w.isRef = true))
    (hd : decode c.code pc = .ok (i, 1)) (hQ : Q (some w) T.heap locs) (hc : cells ≤ k) (hs : slots ≤ n) : Go p e below (FinQ below s Q k n) (T.setTop (mkF m pc Ls (w :: rest))) := by
  obtain ⟨fs, hr, hrun, hended, hW, hsame⟩ := X.leave (v := some w) (fun h => by rw [hret] at h; cases h) hlocks
  exact ⟨_, retOut X hx hret hn hi hd hr, _, hrun, hended, _, _, rfl, hQ, ⟨_, rfl⟩, hW, hsame.mono hc hs⟩
theorem retGI {pc : Nat} {Ls : Array Slot} {z : Int32} {rest : List Value} {Q : Option Value → Heap → List Loc → Prop} {k n : Nat}
    (X : Stand p l e R s m args below meth c T locs cells slots) (hx : p.tables.exec = Jvm.exec) (hlocks : meth.locks = false) (hret : meth.sig.returnType = some .int)
    (hd : decode c.code pc = .ok (.ireturn, 1)) (hQ : Q (some (.int z)) T.heap locs) (hc : cells ≤ k) (hs : slots ≤ n) : Go p e below (FinQ below s Q k n) (T.setTop (mkF m pc Ls (.int z :: rest))) :=
  retG X hx hlocks hret rfl (Or.inl ⟨rfl, Or.inl rfl, _, rfl⟩) hd hQ hc hs
theorem retGJ {pc : Nat} {Ls : Array Slot} {z : Int64} {rest : List Value} {Q : Option Value → Heap → List Loc → Prop} {k n : Nat}
    (X : Stand p l e R s m args below meth c T locs cells slots) (hx : p.tables.exec = Jvm.exec) (hlocks : meth.locks = false) (hret : meth.sig.returnType = some .long)
    (hd : decode c.code pc = .ok (.lreturn, 1)) (hQ : Q (some (.long z)) T.heap locs) (hc : cells ≤ k) (hs : slots ≤ n) : Go p e below (FinQ below s Q k n) (T.setTop (mkF m pc Ls (.long z :: rest))) :=
  retG X hx hlocks hret rfl (Or.inr (Or.inl ⟨rfl, rfl, _, rfl⟩)) hd hQ hc hs
theorem retGR {pc : Nat} {Ls : Array Slot} {a : Addr} {t : FieldType} {rest : List Value} {Q : Option Value → Heap → List Loc → Prop} {k n : Nat}
    (X : Stand p l e R s m args below meth c T locs cells slots) (hx : p.tables.exec = Jvm.exec) (hlocks : meth.locks = false) (hret : meth.sig.returnType = some t) (ht : t.isReference = true) (hn : narrow t (.ref a) = .ref a)
    (hd : decode c.code pc = .ok (.areturn, 1)) (hQ : Q (some (.ref a)) T.heap locs) (hc : cells ≤ k) (hs : slots ≤ n) : Go p e below (FinQ below s Q k n) (T.setTop (mkF m pc Ls (.ref a :: rest))) :=
  retG X hx hlocks hret hn (Or.inr (Or.inr (Or.inr (Or.inr ⟨rfl, ht, rfl⟩)))) hd hQ hc hs
theorem retGN {pc : Nat} {Ls : Array Slot} {z z' : Int32} {t : FieldType} {rest : List Value} {Q : Option Value → Heap → List Loc → Prop} {k n : Nat}
    (X : Stand p l e R s m args below meth c T locs cells slots) (hx : p.tables.exec = Jvm.exec) (hlocks : meth.locks = false) (hret : meth.sig.returnType = some t) (ht : t = .boolean ∨ t = .byte ∨ t = .char ∨ t = .short) (hz : nar t z = z')
    (hd : decode c.code pc = .ok (.ireturn, 1)) (hQ : Q (some (.int z')) T.heap locs) (hc : cells ≤ k) (hs : slots ≤ n) : Go p e below (FinQ below s Q k n) (T.setTop (mkF m pc Ls (.int z :: rest))) := by
  subst hz
  obtain ⟨fs, hr, hrun, hended, hW, hsame⟩ := X.leave (v := some (.int (nar t z))) (fun h => by rw [hret] at h; cases h) hlocks
  exact ⟨_, retN X hx hret ht hd hr, _, hrun, hended, _, _, rfl, hQ, ⟨_, rfl⟩, hW, hsame.mono hc hs⟩
theorem retGV {pc : Nat} {Ls : Array Slot} {Q : Option Value → Heap → List Loc → Prop} {k n : Nat}
    (X : Stand p l e R s m args below meth c T locs cells slots) (hx : p.tables.exec = Jvm.exec) (hlocks : meth.locks = false) (hret : meth.sig.returnType = none)
    (hd : decode c.code pc = .ok (.return_, 1)) (hQ : Q none T.heap locs) (hc : cells ≤ k) (hs : slots ≤ n) : Go p e below (FinQ below s Q k n) (T.setTop (mkF m pc Ls [])) := by
  obtain ⟨fs, hr, hrun, hended, hW, hsame⟩ := X.leave (v := none) (fun _ => rfl) hlocks
  exact ⟨_, X.returnOut hx hret hd hr, _, hrun, hended, _, _, rfl, hQ, ⟨_, rfl⟩, hW, hsame.mono hc hs⟩
end New
/-- a body that writes nothing and returns r -/
def QP (r : Value) (h0 : Heap) (n0 : Nat) (v : Option Value) (h : Heap) (L : List Loc) : Prop := v = some r ∧ Fr n0 L ∧ h = h0
def QV (h0 : Heap) (n0 : Nat) (v : Option Value) (h : Heap) (L : List Loc) : Prop := v = none ∧ Fr n0 L ∧ h = h0
def QAI (h0 : Heap) (n0 : Nat) (v : Option Value) (h : Heap) (L : List Loc) : Prop := (∃ z : Int32, v = some (.int z)) ∧ Fr n0 L ∧ h = h0
def QAJ (h0 : Heap) (n0 : Nat) (v : Option Value) (h : Heap) (L : List Loc) : Prop := (∃ z : Int64, v = some (.long z)) ∧ Fr n0 L ∧ h = h0
/-- a law: it returns r and writes nothing old -/
def QL (r : Value) (n0 : Nat) (v : Option Value) (h : Heap) (L : List Loc) : Prop := v = some r ∧ Fr n0 L
theorem remI (x y : Int32) : x - (x / y) * y = x % y := by
  rw [← Int32.toInt_inj, Int32.toInt_sub, Int32.toInt_mul, Int32.toInt_div, Int32.toInt_mod]
  have h := Int.tmod_add_mul_tdiv x.toInt y.toInt
  have r : (x.toInt.tmod y.toInt).bmod (2 ^ 32) = x.toInt.tmod y.toInt := by
    have := Int32.toInt_bmod (x % y)
    rwa [Int32.toInt_mod] at this
  rw [← r]
  have e : ((x.toInt.tdiv y.toInt).bmod (2 ^ 32) * y.toInt).bmod (2 ^ 32) = (x.toInt.tdiv y.toInt * y.toInt).bmod (2 ^ 32) := by simp
  rw [e, Int.sub_bmod_bmod]
  congr 1
  have := Int.mul_comm (x.toInt.tdiv y.toInt) y.toInt
  omega
theorem selP {s : State} {args : Array Value} {C : String} {x y z : MethodName} (hs : (Jvm.Cond.selects C x y).before args s = true) (hyz : y.cls = z.cls) (hp : s.PrivateAt z) (hi : (Jvm.Cond.instanceMethod z).before args s = true) (hz : z.cls ≠ "java/lang/invoke/MethodHandle" ∧ z.cls ≠ "java/lang/invoke/VarHandle") : (Jvm.Cond.selects z.cls z z).before args s = true := by
  obtain ⟨c, r, m, q1, q2, q3, q4, k, hk, hki⟩ := Cond.selects_spec hs
  have hc := findClass_of_methodNamed q3
  rw [hyz] at hc
  exact selects_self_of_private hc hk hki hp hi hz
theorem addI {x y : Int32} (h1 : -2147483648 ≤ x.toInt + y.toInt) (h2 : x.toInt + y.toInt < 2147483648) : (x + y).toInt = x.toInt + y.toInt := by have := c_iadd x y; have := rng32 (x + y); omega
theorem subI {x y : Int32} (h1 : -2147483648 ≤ x.toInt - y.toInt) (h2 : x.toInt - y.toInt < 2147483648) : (x - y).toInt = x.toInt - y.toInt := by have := c_isub x y; have := rng32 (x - y); omega
theorem mulI {x y : Int32} (h1 : -2147483648 ≤ x.toInt * y.toInt) (h2 : x.toInt * y.toInt < 2147483648) : (x * y).toInt = x.toInt * y.toInt := by have := c_imul x y; have := rng32 (x * y); omega
theorem addL {x y : Int64} (h1 : -9223372036854775808 ≤ x.toInt + y.toInt) (h2 : x.toInt + y.toInt < 9223372036854775808) : (x + y).toInt = x.toInt + y.toInt := by have := c_ladd x y; have := rng64 (x + y); omega
theorem subL {x y : Int64} (h1 : -9223372036854775808 ≤ x.toInt - y.toInt) (h2 : x.toInt - y.toInt < 9223372036854775808) : (x - y).toInt = x.toInt - y.toInt := by have := c_lsub x y; have := rng64 (x - y); omega
theorem mulL {x y : Int64} (h1 : -9223372036854775808 ≤ x.toInt * y.toInt) (h2 : x.toInt * y.toInt < 9223372036854775808) : (x * y).toInt = x.toInt * y.toInt := by have := c_lmul x y; have := rng64 (x * y); omega
theorem modI {x y : Int32} (d : Int) (hy : y.toInt = d) (hx : 0 ≤ x.toInt) : (x % y).toInt = x.toInt % d := by rw [Int32.toInt_mod, hy]; exact (tr _ _).1 hx
theorem modL {x y : Int64} (d : Int) (hy : y.toInt = d) (hx : 0 ≤ x.toInt) : (x % y).toInt = x.toInt % d := by rw [Int64.toInt_mod, hy]; exact (tr _ _).1 hx
end Jvm.OwnKit
namespace Jvm.OwnKit
open Sem ClassFile Op Lib Jvm.Stand Jvm.Free Jvm.LawKit Jvm.RoadKit
/-- an array: its length and its elements, by a function -/
def Ary (Z : State) (h : Heap) (a : Addr) (ty : FieldType) (n : Nat) (f : Nat → Value) : Prop := ∃ c : Cell, Arr Z h a c ty ∧ c.slots.size = n ∧ n < 2147483648 ∧ ∀ i, i < n → c.slots[i]? = some (f i)
def upA {α : Type} (f : Nat → α) (j : Nat) (v : α) : Nat → α := fun i => if i = j then v else f i
theorem upA_same {α : Type} (f : Nat → α) (j : Nat) (v : α) : upA f j v j = v := if_pos rfl
theorem upA_ne {α : Type} (f : Nat → α) {j i : Nat} (v : α) (h : i ≠ j) : upA f j v i = f i := if_neg h
section Facts
variable {Z : State} {h h' : Heap} {a b : Addr} {ty : FieldType} {n sl : Nat} {f : Nat → Value} {v : Value} {ws : List Addr} {j : Int32}
theorem Ary.lt (F : Ary Z h a ty n f) : a < h.size := by obtain ⟨c, A, -⟩ := F; exact A.lt
theorem Ary.ext (F : Ary Z h a ty n f) (E : Ext h h') : Ary Z h' a ty n f := by obtain ⟨c, A, r⟩ := F; exact ⟨c, A.ext E, r⟩
theorem Ary.other (F : Ary Z h b ty n f) (W : Wr h h' a sl v) (q : b ≠ a) : Ary Z h' b ty n f := by obtain ⟨c, A, r⟩ := F; exact ⟨c, A.other W q, r⟩
theorem Ary.keep (F : Ary Z h a ty n f) (K : Keep h h' ws) (q : a ∉ ws) : Ary Z h' a ty n f := by obtain ⟨c, A, r⟩ := F; exact ⟨c, ⟨K.2.1 a c A.1 q, A.2⟩, r⟩
theorem Ary.set (F : Ary Z h a ty n f) (W : Wr h h' a sl v) (q : sl < n) : Ary Z h' a ty n (upA f sl v) := by
  obtain ⟨c, A, hs, hn, hf⟩ := F
  obtain ⟨c', e1, -, -, e4, -, e6, e7⟩ := wr_at W A.1
  refine ⟨c', by rw [(e7 rfl).1]; exact A.same W, e4.trans hs, hn, fun i hi => ?_⟩
  by_cases e : i = sl
  · subst e; rw [(e7 rfl).2.1, upA_same]
  · rw [e6 i e, hf i hi, upA_ne _ _ e]
theorem Ary.setI {g : Nat → Int32} {x : Int32} (F : Ary Z h a ty n (fun i => .int (g i))) (W : Wr h h' a sl (.int x)) (q : sl < n) : Ary Z h' a ty n (fun i => .int (upA g sl x i)) := by
  have e : (fun i => Value.int (upA g sl x i)) = upA (fun i => Value.int (g i)) sl (.int x) := by funext i; unfold upA; split <;> rfl
  rw [e]; exact F.set W q
theorem Ary.setJ {g : Nat → Int64} {x : Int64} (F : Ary Z h a ty n (fun i => .long (g i))) (W : Wr h h' a sl (.long x)) (q : sl < n) : Ary Z h' a ty n (fun i => .long (upA g sl x i)) := by
  have e : (fun i => Value.long (upA g sl x i)) = upA (fun i => Value.long (g i)) sl (.long x) := by funext i; unfold upA; split <;> rfl
  rw [e]; exact F.set W q
theorem Ary.congr {f' : Nat → Value} (F : Ary Z h a ty n f) (q : ∀ i, i < n → f i = f' i) : Ary Z h a ty n f' := by
  obtain ⟨c, A, hs, hn, hf⟩ := F
  exact ⟨c, A, hs, hn, fun i hi => by rw [hf i hi, q i hi]⟩
theorem Ary.hin (F : Ary Z h a ty n f) (h0 : ¬ j < 0) (hj : j.toNatClampNeg < n) : ∃ cl, Arr Z h a cl ty ∧ ¬ (j < 0 ∨ cl.slots.size ≤ j.toNatClampNeg) ∧ cl.slots[j.toNatClampNeg]? = some (f j.toNatClampNeg) := by
  obtain ⟨c, A, hs, hn, hf⟩ := F
  exact ⟨c, A, fun q => q.elim h0 (fun r => by omega), hf _ hj⟩
theorem Ary.mk {k : ClassId} {z : Int32} (A : Arr Z h a (newA k ty z) ty) (q : ¬ z < 0) (hn : z.toNatClampNeg = n) : Ary Z h a ty n (fun _ => defaultValue ty) := by
  obtain ⟨c, A', -, hs, -, H, -⟩ := Arv.new A q
  have r := rng32 z
  refine ⟨c, A', hs.trans hn, ?_, fun i hi => ?_⟩
  · rw [← hn]; have := nat_of q; omega
  · have := H i (by rw [hs, hn]; exact hi); simpa using this
end Facts
theorem clamp_nat {k : Nat} (h : k < 2147483648) : (Int32.ofNat k).toNatClampNeg = k := by
  have e : (Int32.ofNat k).toInt = k := Int32.toInt_ofNat_of_lt h
  show (Int32.ofNat k).toInt.toNat = k
  rw [e]; rfl
theorem nat32 {k : Nat} (h : k < 2147483648) : k.toInt32.toInt = k := Int32.toInt_ofNat_of_lt h
section New
variable {p : Program} {l : Launch} {e : Env} {R : Room} {s : State} {m : MethodId} {args : Array Value} {below : List Frame} {meth : Method} {c : Code} {T : State} {locs : List Loc} {cells slots : Nat} {Z : State} {h : Heap} {a : Addr} {n : Nat} {rest : List Value} {g : JFrame} {j : Int32}
theorem ldI {f : Nat → Int32} (X : Stand p l e R s m args below meth c T locs cells slots) (hx : p.tables.exec = Jvm.exec) (hZ : Z.Warmed39 s.vm) (eT : T.heap = h) (F : Ary Z h a .int n (fun i => .int (f i))) (h0 : ¬ j < 0) (hj : j.toNatClampNeg < n)
    (hg : g.method = m) (hs : g.stack = .int j :: .ref a :: rest) (hd : decode c.code g.pc = .ok (.iaload, 1)) : ∀ target, Steps p.tables e below (T.setTop { g with pc := g.pc + 1, stack := .int (f j.toNatClampNeg) :: rest }) target → Steps p.tables e below (T.setTop g) target := fun t k => by
  obtain ⟨cl, A, hin, hat⟩ := F.hin h0 hj
  exact X.iaload hx (by rw [eT]; exact A.1) (State.isArrayOf_alike hZ.alike A.2.1) A.2.2 hin hat hg hs hd t k
theorem ldJ {f : Nat → Int64} (X : Stand p l e R s m args below meth c T locs cells slots) (hx : p.tables.exec = Jvm.exec) (hZ : Z.Warmed39 s.vm) (eT : T.heap = h) (F : Ary Z h a .long n (fun i => .long (f i))) (h0 : ¬ j < 0) (hj : j.toNatClampNeg < n)
    (hg : g.method = m) (hs : g.stack = .int j :: .ref a :: rest) (hd : decode c.code g.pc = .ok (.laload, 1)) : ∀ target, Steps p.tables e below (T.setTop { g with pc := g.pc + 1, stack := .long (f j.toNatClampNeg) :: rest }) target → Steps p.tables e below (T.setTop g) target := fun t k => by
  obtain ⟨cl, A, hin, hat⟩ := F.hin h0 hj
  exact X.laload hx (by rw [eT]; exact A.1) (State.isArrayOf_alike hZ.alike A.2.1) A.2.2 hin hat hg hs hd t k
theorem ldB {f : Nat → Int32} (X : Stand p l e R s m args below meth c T locs cells slots) (hx : p.tables.exec = Jvm.exec) (hZ : Z.Warmed39 s.vm) (eT : T.heap = h) (F : Ary Z h a .byte n (fun i => .int (f i))) (h0 : ¬ j < 0) (hj : j.toNatClampNeg < n)
    (hg : g.method = m) (hs : g.stack = .int j :: .ref a :: rest) (hd : decode c.code g.pc = .ok (.baload, 1)) : ∀ target, Steps p.tables e below (T.setTop { g with pc := g.pc + 1, stack := .int (f j.toNatClampNeg) :: rest }) target → Steps p.tables e below (T.setTop g) target := fun t k => by
  obtain ⟨cl, A, hin, hat⟩ := F.hin h0 hj
  exact X.baloadBytes hx (by rw [eT]; exact A.1) (State.isArrayOf_alike hZ.alike A.2.1) A.2.2 hin hat hg hs hd t k
theorem ldC {f : Nat → Int32} (X : Stand p l e R s m args below meth c T locs cells slots) (hx : p.tables.exec = Jvm.exec) (hZ : Z.Warmed39 s.vm) (eT : T.heap = h) (F : Ary Z h a .char n (fun i => .int (f i))) (h0 : ¬ j < 0) (hj : j.toNatClampNeg < n)
    (hg : g.method = m) (hs : g.stack = .int j :: .ref a :: rest) (hd : decode c.code g.pc = .ok (.caload, 1)) : ∀ target, Steps p.tables e below (T.setTop { g with pc := g.pc + 1, stack := .int (f j.toNatClampNeg) :: rest }) target → Steps p.tables e below (T.setTop g) target := fun t k => by
  obtain ⟨cl, A, hin, hat⟩ := F.hin h0 hj
  exact X.caload hx (by rw [eT]; exact A.1) (State.isArrayOf_alike hZ.alike A.2.1) A.2.2 hin hat hg hs hd t k
theorem ldR {f : Nat → Value} {ty : FieldType} (X : Stand p l e R s m args below meth c T locs cells slots) (hx : p.tables.exec = Jvm.exec) (hZ : Z.Warmed39 s.vm) (eT : T.heap = h) (F : Ary Z h a ty n f) (hty : ty.isReference = true) (h0 : ¬ j < 0) (hj : j.toNatClampNeg < n)
    (hg : g.method = m) (hs : g.stack = .int j :: .ref a :: rest) (hd : decode c.code g.pc = .ok (.aaload, 1)) : ∀ target, Steps p.tables e below (T.setTop { g with pc := g.pc + 1, stack := f j.toNatClampNeg :: rest }) target → Steps p.tables e below (T.setTop g) target := fun t k => by
  obtain ⟨cl, A, hin, hat⟩ := F.hin h0 hj
  exact X.aaload hx (by rw [eT]; exact A.1) (State.isArrayOf_alike hZ.alike A.2.1) hty A.2.2 hin hat hg hs hd t k
theorem lenA {f : Nat → Value} {ty : FieldType} (X : Stand p l e R s m args below meth c T locs cells slots) (hx : p.tables.exec = Jvm.exec) (hZ : Z.Warmed39 s.vm) (eT : T.heap = h) (F : Ary Z h a ty n f)
    (hg : g.method = m) (hs : g.stack = .ref a :: rest) (hd : decode c.code g.pc = .ok (.arraylength, 1)) : ∀ target, Steps p.tables e below (T.setTop { g with pc := g.pc + 1, stack := .int n.toInt32 :: rest }) target → Steps p.tables e below (T.setTop g) target := fun t k => by
  obtain ⟨cl, A, hs', hn, -⟩ := F
  subst hs'
  exact X.arraylength hx (by rw [eT]; exact A.1) (State.isArrayOf_alike hZ.alike A.2.1) hg hs hd t k
theorem lenAz {f : Nat → Value} {ty : FieldType} {z : Int32} (X : Stand p l e R s m args below meth c T locs cells slots) (hx : p.tables.exec = Jvm.exec) (hZ : Z.Warmed39 s.vm) (eT : T.heap = h) (F : Ary Z h a ty n f) (hz : n.toInt32 = z)
    (hg : g.method = m) (hs : g.stack = .ref a :: rest) (hd : decode c.code g.pc = .ok (.arraylength, 1)) : ∀ target, Steps p.tables e below (T.setTop { g with pc := g.pc + 1, stack := .int z :: rest }) target → Steps p.tables e below (T.setTop g) target := fun t k => by
  subst hz
  exact lenA X hx hZ eT F hg hs hd t k
end New
theorem len32 {z : Int32} (q : ¬ z < 0) : z.toNatClampNeg.toInt32 = z := by
  have r := rng32 z
  have e := nat_of q
  apply Int32.toInt_inj.mp
  rw [nat32 (by omega)]; omega
theorem succ32 (j : Nat) : Int32.ofNat j + 1 = Int32.ofNat (j + 1) := by rw [Int32.ofNat_add]; rfl
theorem of_lt {j n : Nat} (hj : j < 2147483648) (hn : n < 2147483648) : Int32.ofNat j < n.toInt32 ↔ j < n := by
  rw [Int32.lt_iff_toInt_lt, show (Int32.ofNat j).toInt = j from Int32.toInt_ofNat_of_lt hj, nat32 hn]; omega
theorem of_nn {j : Nat} (hj : j < 2147483648) : ¬ Int32.ofNat j < 0 := by
  rw [Int32.lt_iff_toInt_lt, show (Int32.ofNat j).toInt = j from Int32.toInt_ofNat_of_lt hj, show (0 : Int32).toInt = 0 by decide]; omega
theorem Ary.len {Z : State} {h : Heap} {a : Addr} {ty : FieldType} {n : Nat} {f : Nat → Value} (F : Ary Z h a ty n f) : n < 2147483648 := by obtain ⟨c, A, hs, hn, -⟩ := F; exact hn
end Jvm.OwnKit
namespace Jvm.OwnKit
open Sem ClassFile Op Lib Jvm.Stand Jvm.Free Jvm.LawKit Jvm.RoadKit
section Slim
variable {p : Program} {l : Launch} {e : Env} {R : Room} {s : State} {m : MethodId} {args : Array Value} {below : List Frame} {meth : Method} {c : Code} {T : State} {locs : List Loc} {cells slots : Nat} {pc q : Nat} {Ls : Array Slot} {st : List Value} {Φ : State → Prop}
theorem gI {k : Fin 4} {v : Int32} (X : Stand p l e R s m args below meth c T locs cells slots) (hx : p.tables.exec = Jvm.exec) (hd : decode c.code pc = .ok (.iload_n k, 1)) (hl : Ls[k.val]? = some (.val (.int v))) (hq : pc + 1 = q) (K : Go p e below Φ (T.setTop (mkF m q Ls (.int v :: st)))) : Go p e below Φ (T.setTop (mkF m pc Ls st)) := by
  subst hq; exact Go.step (fun t k => XS.iloadN X.here hx rfl hd hl k) K
theorem gJ {k : Nat} {v : Int32} (X : Stand p l e R s m args below meth c T locs cells slots) (hx : p.tables.exec = Jvm.exec) (hd : decode c.code pc = .ok (.iload k, 2)) (hl : Ls[k]? = some (.val (.int v))) (hq : pc + 2 = q) (K : Go p e below Φ (T.setTop (mkF m q Ls (.int v :: st)))) : Go p e below Φ (T.setTop (mkF m pc Ls st)) := by
  subst hq; exact Go.step (fun t k => XS.iload X.here hx rfl hd hl k) K
theorem gA {k : Fin 4} {v : Value} (X : Stand p l e R s m args below meth c T locs cells slots) (hx : p.tables.exec = Jvm.exec) (hd : decode c.code pc = .ok (.aload_n k, 1)) (hl : Ls[k.val]? = some (.val v)) (hv : v.isRef = true) (hq : pc + 1 = q) (K : Go p e below Φ (T.setTop (mkF m q Ls (v :: st)))) : Go p e below Φ (T.setTop (mkF m pc Ls st)) := by
  subst hq; exact Go.step (fun t k => XS.aloadN X.here hx rfl hd hl hv k) K
theorem gB {k : Nat} {v : Value} (X : Stand p l e R s m args below meth c T locs cells slots) (hx : p.tables.exec = Jvm.exec) (hd : decode c.code pc = .ok (.aload k, 2)) (hl : Ls[k]? = some (.val v)) (hv : v.isRef = true) (hq : pc + 2 = q) (K : Go p e below Φ (T.setTop (mkF m q Ls (v :: st)))) : Go p e below Φ (T.setTop (mkF m pc Ls st)) := by
  subst hq; exact Go.step (fun t k => XS.aload X.here hx rfl hd hl hv k) K
theorem gC {i : Int} {v : Int32} (X : Stand p l e R s m args below meth c T locs cells slots) (hx : p.tables.exec = Jvm.exec) (hd : decode c.code pc = .ok (.iconst i, 1)) (hi : Int32.ofInt i = v) (hq : pc + 1 = q) (K : Go p e below Φ (T.setTop (mkF m q Ls (.int v :: st)))) : Go p e below Φ (T.setTop (mkF m pc Ls st)) := by
  subst hq; subst hi; exact Go.step (fun t k => XS.iconst X.here hx rfl hd k) K
end Slim
end Jvm.OwnKit
namespace Jvm.OwnKit
open Sem ClassFile Op Lib Jvm.Stand Jvm.Free Jvm.LawKit Jvm.RoadKit
/-- an array of references: as Ary, and its components' class is C -/
def RAry (Z : State) (h : Heap) (a : Addr) (ty : FieldType) (C : String) (n : Nat) (f : Nat → Value) : Prop := ∃ c : Cell, Arr Z h a c ty ∧ c.slots.size = n ∧ n < 2147483648 ∧ (∀ i, i < n → c.slots[i]? = some (f i)) ∧ ∃ (k : Class) (comp : ClassId) (t : FieldType), Z.vm.classes[c.cls]? = some k ∧ k.kind = .array comp t ∧ Z.vm.findClass C = some comp
section Facts
variable {Z : State} {h h' : Heap} {a b y : Addr} {ty : FieldType} {C : String} {n sl : Nat} {f : Nat → Value} {v : Value} {ws : List Addr} {j : Int32}
theorem RAry.ary (F : RAry Z h a ty C n f) : Ary Z h a ty n f := by obtain ⟨c, A, h1, h2, h3, -⟩ := F; exact ⟨c, A, h1, h2, h3⟩
theorem RAry.lt (F : RAry Z h a ty C n f) : a < h.size := by obtain ⟨c, A, -⟩ := F; exact A.lt
theorem RAry.ext (F : RAry Z h a ty C n f) (E : Ext h h') : RAry Z h' a ty C n f := by obtain ⟨c, A, r⟩ := F; exact ⟨c, A.ext E, r⟩
theorem RAry.other (F : RAry Z h b ty C n f) (W : Wr h h' a sl v) (q : b ≠ a) : RAry Z h' b ty C n f := by obtain ⟨c, A, r⟩ := F; exact ⟨c, A.other W q, r⟩
theorem RAry.keep (F : RAry Z h a ty C n f) (K : Keep h h' ws) (q : a ∉ ws) : RAry Z h' a ty C n f := by obtain ⟨c, A, r⟩ := F; exact ⟨c, ⟨K.2.1 a c A.1 q, A.2⟩, r⟩
theorem RAry.set (F : RAry Z h a ty C n f) (W : Wr h h' a sl v) (q : sl < n) : RAry Z h' a ty C n (upA f sl v) := by
  obtain ⟨c, A, hs, hn, hf, k, comp, t, h1, h2, h3⟩ := F
  obtain ⟨c', e1, e2, -, e4, -, e6, e7⟩ := wr_at W A.1
  refine ⟨c', by rw [(e7 rfl).1]; exact A.same W, e4.trans hs, hn, fun i hi => ?_, k, comp, t, by rw [e2]; exact h1, h2, h3⟩
  by_cases e : i = sl
  · subst e; rw [(e7 rfl).2.1, upA_same]
  · rw [e6 i e, hf i hi, upA_ne _ _ e]
theorem RAry.hin (F : RAry Z h a ty C n f) (h0 : ¬ j < 0) (hj : j.toNatClampNeg < n) : ∃ cl, Arr Z h a cl ty ∧ ¬ (j < 0 ∨ cl.slots.size ≤ j.toNatClampNeg) ∧ cl.slots[j.toNatClampNeg]? = some (f j.toNatClampNeg) := F.ary.hin h0 hj
theorem RAry.sto (F : RAry Z h a ty C n f) (I : Ins Z h y C true) : Sto Z h a (.ref y) := by
  obtain ⟨cl, A, hs, hn, hf, k, comp, t, o1, o2, o3⟩ := F
  obtain ⟨cv, cT, i1, i2, i3⟩ := I
  cases o3.symm.trans i2
  simp only [Bool.and_eq_true, Bool.not_eq_true'] at i3
  obtain ⟨kc, q⟩ := Vm.classAt_of_findClass o3
  obtain ⟨kv, q2⟩ := Vm.classAt_of_assignable i3.2 ⟨kc, q⟩
  exact Or.inr ⟨cl, cv, k, kv, kc, _, _, y, A.1, o1, o2, q, rfl, i1, i3.1, q2, i3.2⟩
theorem RAry.congr {f' : Nat → Value} (F : RAry Z h a ty C n f) (q : ∀ i, i < n → f i = f' i) : RAry Z h a ty C n f' := by
  obtain ⟨c, A, hs, hn, hf, r⟩ := F
  exact ⟨c, A, hs, hn, fun i hi => by rw [hf i hi, q i hi], r⟩
theorem newA_cls (k : ClassId) (ty : FieldType) (z : Int32) : (newA k ty z).cls = k := rfl
theorem RAry.mk {k : ClassId} {z : Int32} {t : FieldType} (A : Arr Z h a (newA k ty z) ty) (O : ∃ (kk : Class) (comp : ClassId), Z.vm.classes[k]? = some kk ∧ kk.kind = .array comp t ∧ Z.vm.findClass C = some comp) (q : ¬ z < 0) (hn : z.toNatClampNeg = n) (hd : defaultValue ty = .null) : RAry Z h a ty C n (fun _ => .null) := by
  obtain ⟨kk, comp, o1, o2, o3⟩ := O
  have hs : (newA k ty z).slots.size = n := by rw [← hn]; simp [newA]
  have r := rng32 z
  refine ⟨_, A, hs, ?_, fun i hi => ?_, kk, comp, t, o1, o2, o3⟩
  · rw [← hn]; have := nat_of q; omega
  · rw [← hn] at hi; simp [newA, hd, hi]
end Facts
end Jvm.OwnKit
namespace Jvm.Pilot.@@N@@
open Jvm Jvm.ClassFile Sem Op Lib Jvm.Free Jvm.Stand Jvm.LawKit Jvm.RoadKit Jvm.OwnKit Bundle Jvm.Pilot.@@N@@.Jvm.D
theorem d6_0 : decode method_3_code 0 = .ok (.iload_n 0, 1) := by decide +kernel
theorem d6_1 : decode method_3_code 1 = .ok (.bipush 9, 2) := by decide +kernel
theorem d6_3 : decode method_3_code 3 = .ok (.iload_n 0, 1) := by decide +kernel
theorem d6_4 : decode method_3_code 4 = .ok (.isub, 1) := by decide +kernel
theorem d6_5 : decode method_3_code 5 = .ok (.imul, 1) := by decide +kernel
theorem d6_6 : decode method_3_code 6 = .ok (.iconst 2, 1) := by decide +kernel
theorem d6_7 : decode method_3_code 7 = .ok (.idiv, 1) := by decide +kernel
theorem d6_8 : decode method_3_code 8 = .ok (.iload_n 1, 1) := by decide +kernel
theorem d6_9 : decode method_3_code 9 = .ok (.iload_n 0, 1) := by decide +kernel
theorem d6_10 : decode method_3_code 10 = .ok (.isub, 1) := by decide +kernel
theorem d6_11 : decode method_3_code 11 = .ok (.iconst 1, 1) := by decide +kernel
theorem d6_12 : decode method_3_code 12 = .ok (.isub, 1) := by decide +kernel
theorem d6_13 : decode method_3_code 13 = .ok (.iadd, 1) := by decide +kernel
theorem d6_14 : decode method_3_code 14 = .ok (.ireturn, 1) := by decide +kernel
theorem ef_6 (m : MethodId) (p1 : Int32) (p2 : Int32) : entryFrame m #[(.int p1), (.int p2)] 2 = mkF m 0 #[.val (.int p1), .val (.int p2)] [] := by first | (simp [entryFrame, mkF, argsToLocals, Value.category]; done) | rfl
theorem pn_0 : plainName "com/example/hertzbid/hertzbid/ConflictPairsNeighboursPinLaw" = true := by first | (simp [plainName, overriddenIn]; done) | decide +kernel
def f6 (p1 : Int32) (p2 : Int32) : Int32 := (((p1 * ((9 : Int32) - p1)) / (2 : Int32)) + ((p2 - p1) - (1 : Int32)))
set_option maxRecDepth 65536 in
set_option maxHeartbeats 40000000 in
theorem rm6 (l : Launch) (Z : State) (a0 : Array Value) (hw : ∀ d ∈ tables_1, d.before a0 Z = true) (ws : List Jvm.Cond) (p1 : Int32) (p2 : Int32) (h0 : Heap) (n0 : Nat) (Z0 : n0 ≤ h0.size) :
    MetFree l (⟨"com/example/hertzbid/hertzbid/ConflictPairsNeighboursPinLaw", "idx", "(II)I"⟩ : MethodName) (head1 (Jvm.Cond.code (⟨"com/example/hertzbid/hertzbid/ConflictPairsNeighboursPinLaw", "idx", "(II)I"⟩ : MethodName) method_3_code 2 (some .int) :: ws) ({ frames := 0, cells := 0, slots := 0, locals := 0 } : Room)) (fun a U => a = #[(.int p1), (.int p2)] ∧ Z.Warmed39 U.vm ∧ U.heap = h0) (fun _ _ _ _ _ => True) (fun _ U o U' => ∃ v L, o = .returned v ∧ QP (.int (f6 p1 p2)) h0 n0 v U'.heap L ∧ FrameEnd U o U' L ({ frames := 0, cells := 0, slots := 0, locals := 0 } : Room).cells ({ frames := 0, cells := 0, slots := 0, locals := 0 } : Room).slots) := by
  refine MetFree.of_bodySF (plainFor_of_name pn_0) hisR ?_
  intro p e s m args below meth c s₁ Bd hml0 hP hK
  obtain ⟨rfl, hZ, hh⟩ := hP
  have hx := Bd.exec
  have hby := Bd.bytes
  have hml : c.maxLocals = 2 := hml0
  have hown : s.vm.findClass "com/example/hertzbid/hertzbid/ConflictPairsNeighboursPinLaw" = some m.cls := findClass_of_methodNamed Bd.named
  have hnm := (name_of_methodNamed Bd.named Bd.method).1
  have X0 : Stand p l e ({ frames := 0, cells := 0, slots := 0, locals := 0 } : Room) s m #[(.int p1), (.int p2)] below meth c s₁ [] 0 0 := Stand.of_body Bd
  have e0 : s₁.heap = h0 := by rw [← hh, Bd.state]; rfl
  have N0 := Fr.nil n0
  refine Go.done (Go.step (fun t k => castTop (ef_6 m p1 p2) k) ?_)
  have KK0 : Keep h0 h0 [] := Keep.refl _ _
  show Go p e below _ (s₁.setTop (mkF m 0 _ []))
  refine gI (q := 1) X0 hx (hb hby d6_0) rfl rfl ?_
  refine Go.step (fun t k => XS.bipush X0.here hx rfl (hb hby d6_1)  k) ?_
  show Go p e below _ (s₁.setTop (mkF m 3 _ [(.int (9 : Int32)), (.int p1)]))
  refine gI (q := 4) X0 hx (hb hby d6_3) rfl rfl ?_
  refine Go.step (fun t k => XS.isub X0.here hx rfl (hb hby d6_4) rfl k) ?_
  show Go p e below _ (s₁.setTop (mkF m 5 _ [(.int ((9 : Int32) - p1)), (.int p1)]))
  refine Go.step (fun t k => XS.imul X0.here hx rfl (hb hby d6_5) rfl k) ?_
  show Go p e below _ (s₁.setTop (mkF m 6 _ [(.int (p1 * ((9 : Int32) - p1)))]))
  refine gC (q := 7) (v := 2) X0 hx (hb hby d6_6) rfl rfl ?_
  refine Go.step (fun t k => XS.idiv X0.here hx rfl (hb hby d6_7) rfl (by decide) k) ?_
  show Go p e below _ (s₁.setTop (mkF m 8 _ [(.int ((p1 * ((9 : Int32) - p1)) / (2 : Int32)))]))
  refine gI (q := 9) X0 hx (hb hby d6_8) rfl rfl ?_
  refine gI (q := 10) X0 hx (hb hby d6_9) rfl rfl ?_
  refine Go.step (fun t k => XS.isub X0.here hx rfl (hb hby d6_10) rfl k) ?_
  show Go p e below _ (s₁.setTop (mkF m 11 _ [(.int (p2 - p1)), (.int ((p1 * ((9 : Int32) - p1)) / (2 : Int32)))]))
  refine gC (q := 12) (v := 1) X0 hx (hb hby d6_11) rfl rfl ?_
  refine Go.step (fun t k => XS.isub X0.here hx rfl (hb hby d6_12) rfl k) ?_
  show Go p e below _ (s₁.setTop (mkF m 13 _ [(.int ((p2 - p1) - (1 : Int32))), (.int ((p1 * ((9 : Int32) - p1)) / (2 : Int32)))]))
  refine Go.step (fun t k => XS.iadd X0.here hx rfl (hb hby d6_13) rfl k) ?_
  show Go p e below _ (s₁.setTop (mkF m 14 _ [(.int (((p1 * ((9 : Int32) - p1)) / (2 : Int32)) + ((p2 - p1) - (1 : Int32))))]))
  exact retGI X0 hx Bd.notSynchronized Bd.returns (hb hby d6_14) ⟨by first | rfl | (simp only [f6]; done) | (simp [f6]; done), N0, e0⟩ (by decide) (by decide)
theorem d2_0 : decode method_4_code 0 = .ok (.iload_n 3, 1) := by decide +kernel
theorem d2_1 : decode method_4_code 1 = .ok (.iload_n 1, 1) := by decide +kernel
theorem d2_2 : decode method_4_code 2 = .ok (.if_icmp .ge 19, 3) := by decide +kernel
theorem d2_5 : decode method_4_code 5 = .ok (.iload_n 0, 1) := by decide +kernel
theorem d2_6 : decode method_4_code 6 = .ok (.iload_n 2, 1) := by decide +kernel
theorem d2_7 : decode method_4_code 7 = .ok (.iload_n 3, 1) := by decide +kernel
theorem d2_8 : decode method_4_code 8 = .ok (.invokestatic 28, 3) := by decide +kernel
theorem pd_0 : parseMethodDescriptor "(II)I" = some ⟨[.int, .int], some .int⟩ := by decide +kernel
theorem d2_11 : decode method_4_code 11 = .ok (.iushr, 1) := by decide +kernel
theorem d2_12 : decode method_4_code 12 = .ok (.iconst 1, 1) := by decide +kernel
theorem d2_13 : decode method_4_code 13 = .ok (.iand, 1) := by decide +kernel
theorem d2_14 : decode method_4_code 14 = .ok (.ifCond .eq 7, 3) := by decide +kernel
theorem d2_21 : decode method_4_code 21 = .ok (.iconst 0, 1) := by decide +kernel
theorem d2_22 : decode method_4_code 22 = .ok (.ireturn, 1) := by decide +kernel
theorem d2_17 : decode method_4_code 17 = .ok (.iconst 1, 1) := by decide +kernel
theorem d2_18 : decode method_4_code 18 = .ok (.goto 4, 3) := by decide +kernel
theorem ef_2 (m : MethodId) (p1 : Int32) (p2 : Int32) (p3 : Int32) (p4 : Int32) : entryFrame m #[(.int p1), (.int p2), (.int p3), (.int p4)] 4 = mkF m 0 #[.val (.int p1), .val (.int p2), .val (.int p3), .val (.int p4)] [] := by first | (simp [entryFrame, mkF, argsToLocals, Value.category]; done) | rfl
def f2 (p1 : Int32) (p2 : Int32) (p3 : Int32) (p4 : Int32) : Int32 := (if p4 < p2 then (if (((p1.toUInt32 >>> ((f6 p3 p4) &&& 31).toUInt32).toInt32) &&& (1 : Int32)) = (0 : Int32) then (0 : Int32) else (1 : Int32)) else (0 : Int32))
set_option maxRecDepth 65536 in
set_option maxHeartbeats 40000000 in
theorem rm2 (l : Launch) (Z : State) (a0 : Array Value) (hw : ∀ d ∈ tables_1, d.before a0 Z = true) (ws : List Jvm.Cond) (p1 : Int32) (p2 : Int32) (p3 : Int32) (p4 : Int32) (h0 : Heap) (n0 : Nat) (Z0 : n0 ≤ h0.size) :
    MetFree l (⟨"com/example/hertzbid/hertzbid/ConflictPairsNeighboursPinLaw", "in", "(IIII)Z"⟩ : MethodName) (head1 (Jvm.Cond.code (⟨"com/example/hertzbid/hertzbid/ConflictPairsNeighboursPinLaw", "in", "(IIII)Z"⟩ : MethodName) method_4_code 4 (some .boolean) :: ws) ({ frames := 1, cells := 0, slots := 0, locals := 14 } : Room)) (fun a U => a = #[(.int p1), (.int p2), (.int p3), (.int p4)] ∧ Z.Warmed39 U.vm ∧ U.heap = h0) (fun _ _ _ _ _ => True) (fun _ U o U' => ∃ v L, o = .returned v ∧ QP (.int (f2 p1 p2 p3 p4)) h0 n0 v U'.heap L ∧ FrameEnd U o U' L ({ frames := 1, cells := 0, slots := 0, locals := 14 } : Room).cells ({ frames := 1, cells := 0, slots := 0, locals := 14 } : Room).slots) := by
  refine MetFree.of_bodySF (plainFor_of_name pn_0) hisR ?_
  intro p e s m args below meth c s₁ Bd hml0 hP hK
  obtain ⟨rfl, hZ, hh⟩ := hP
  have hx := Bd.exec
  have hby := Bd.bytes
  have hml : c.maxLocals = 4 := hml0
  have hown : s.vm.findClass "com/example/hertzbid/hertzbid/ConflictPairsNeighboursPinLaw" = some m.cls := findClass_of_methodNamed Bd.named
  have hnm := (name_of_methodNamed Bd.named Bd.method).1
  have X0 : Stand p l e ({ frames := 1, cells := 0, slots := 0, locals := 14 } : Room) s m #[(.int p1), (.int p2), (.int p3), (.int p4)] below meth c s₁ [] 0 0 := Stand.of_body Bd
  have e0 : s₁.heap = h0 := by rw [← hh, Bd.state]; rfl
  have N0 := Fr.nil n0
  refine Go.done (Go.step (fun t k => castTop (ef_2 m p1 p2 p3 p4) k) ?_)
  have KK0 : Keep h0 h0 [] := Keep.refl _ _
  show Go p e below _ (s₁.setTop (mkF m 0 _ []))
  refine gI (q := 1) X0 hx (hb hby d2_0) rfl rfl ?_
  refine gI (q := 2) X0 hx (hb hby d2_1) rfl rfl ?_
  by_cases hc5 : p4 < p2
  · refine Go.step (fun t k => XS.icmpNo X0.here hx rfl (hb hby d2_2) rfl (tlt hc5).2.1 k) ?_
    show Go p e below _ (s₁.setTop (mkF m 5 _ []))
    refine gI (q := 6) X0 hx (hb hby d2_5) rfl rfl ?_
    refine gI (q := 7) X0 hx (hb hby d2_6) rfl rfl ?_
    refine gI (q := 8) X0 hx (hb hby d2_7) rfl rfl ?_
    obtain ⟨_, _, ⟨T6, L6, k6, n6⟩, -, X6, ⟨Lc6, hQ6, l6, y6, z6⟩, st6⟩ := Jvm.LawKit.callS X0 hx (y := (⟨"com/example/hertzbid/hertzbid/ConflictPairsNeighboursPinLaw", "idx", "(II)I"⟩ : MethodName)) hown (mvT hZ (hw _ (List.mem_of_getElem? (i := 22) rfl))) (mvT hZ (hw _ (List.mem_of_getElem? (i := 23) rfl))) (mvT hZ (hw _ (List.mem_of_getElem? (i := 3) rfl))) (mvT hZ (hw _ (List.mem_of_getElem? (i := 24) rfl))) (by decide) (backOf (W := 1) (rm6 l Z a0 hw [] p3 p4 h0 n0 Z0) hZ (hw _ (List.mem_of_getElem? (i := 24) rfl)) (hw _ (List.mem_of_getElem? (i := 3) rfl)) (by decide) (by decide)) (g := (mkF m 8 #[.val (.int p1), .val (.int p2), .val (.int p3), .val (.int p4)] [(.int p4), (.int p3), (.int p1)])) rfl (by rw [hml]; rfl) (argsL := [(.int p3), (.int p4)]) (rest := [(.int p1)]) (lenOf pd_0 rfl) rfl (by show 2 * 0 + _ ≤ _; exact Nat.le_of_eq rfl) (hb hby d2_8) (fun _ _ => ⟨rfl, e0, (by decide : 0 + 0 ≤ _), (by decide : 0 + 0 ≤ _)⟩)
    dsimp only [Pt.U, Pt.locs, Pt.cells, Pt.slots] at X6 l6 y6 z6 st6 hQ6
    replace y6 : k6 = 0 := y6
    replace z6 : n6 = 0 := z6
    subst y6 z6
    obtain ⟨rfl, N6q, e6⟩ := hQ6
    have N6 : Fr n0 L6 := Eq.mpr (congrArg (Fr n0) l6) (Fr.app N0 N6q)
    refine Go.step st6 ?_
    show Go p e below _ (T6.setTop (mkF m 11 _ [(.int (f6 p3 p4)), (.int p1)]))
    refine Go.step (fun t k => XS.iushr X6.here hx rfl (hb hby d2_11) rfl k) ?_
    show Go p e below _ (T6.setTop (mkF m 12 _ [(.int ((p1.toUInt32 >>> ((f6 p3 p4) &&& 31).toUInt32).toInt32))]))
    refine gC (q := 13) (v := 1) X6 hx (hb hby d2_12) rfl rfl ?_
    refine Go.step (fun t k => XS.iand X6.here hx rfl (hb hby d2_13) rfl k) ?_
    show Go p e below _ (T6.setTop (mkF m 14 _ [(.int (((p1.toUInt32 >>> ((f6 p3 p4) &&& 31).toUInt32).toInt32) &&& (1 : Int32)))]))
    by_cases hc7 : (((p1.toUInt32 >>> ((f6 p3 p4) &&& 31).toUInt32).toInt32) &&& (1 : Int32)) = (0 : Int32)
    · refine Go.step (fun t k => XS.ifYes X6.here hx rfl (pc0 := 14) (pc' := 21) rfl (hb hby d2_14) rfl ((if0 _ _).trans (teq hc7).1) (by decide) (by decide) k) ?_
      show Go p e below _ (T6.setTop (mkF m 21 _ []))
      refine gC (q := 22) (v := 0) X6 hx (hb hby d2_21) rfl rfl ?_
      exact retGN X6 hx Bd.notSynchronized Bd.returns (t := .boolean) (by simp) (z' := (0 : Int32)) rfl (hb hby d2_22) ⟨by first | (simp only [f2, if_pos hc5, if_pos hc7]; done) | rfl | (simp [f2, if_pos hc5, if_pos hc7]; done), N6, e6⟩ (by decide) (by decide)
    · refine Go.step (fun t k => XS.ifNo X6.here hx rfl (hb hby d2_14) rfl ((if0 _ _).trans (feq hc7).1) k) ?_
      show Go p e below _ (T6.setTop (mkF m 17 _ []))
      refine gC (q := 18) (v := 1) X6 hx (hb hby d2_17) rfl rfl ?_
      refine Go.step (fun t k => XS.goto X6.here hx rfl (pc0 := 18) (pc' := 22) rfl (hb hby d2_18) (by decide) (by decide) k) ?_
      show Go p e below _ (T6.setTop (mkF m 22 _ [(.int (1 : Int32))]))
      exact retGN X6 hx Bd.notSynchronized Bd.returns (t := .boolean) (by simp) (z' := (1 : Int32)) rfl (hb hby d2_22) ⟨by first | (simp only [f2, if_pos hc5, if_neg hc7]; done) | rfl | (simp [f2, if_pos hc5, if_neg hc7]; done), N6, e6⟩ (by decide) (by decide)
  · refine Go.step (fun t k => XS.icmpYes X0.here hx rfl (pc0 := 2) (pc' := 21) rfl (hb hby d2_2) rfl (flt hc5).2.1 (by decide) (by decide) k) ?_
    show Go p e below _ (s₁.setTop (mkF m 21 _ []))
    refine gC (q := 22) (v := 0) X0 hx (hb hby d2_21) rfl rfl ?_
    exact retGN X0 hx Bd.notSynchronized Bd.returns (t := .boolean) (by simp) (z' := (0 : Int32)) rfl (hb hby d2_22) ⟨by first | (simp only [f2, if_neg hc5]; done) | rfl | (simp [f2, if_neg hc5]; done), N0, e0⟩ (by decide) (by decide)
theorem d1_0 : decode method_5_code 0 = .ok (.iload_n 0, 1) := by decide +kernel
theorem d1_1 : decode method_5_code 1 = .ok (.iload_n 1, 1) := by decide +kernel
theorem d1_2 : decode method_5_code 2 = .ok (.iload_n 2, 1) := by decide +kernel
theorem d1_3 : decode method_5_code 3 = .ok (.iload_n 3, 1) := by decide +kernel
theorem d1_4 : decode method_5_code 4 = .ok (.invokestatic 32, 3) := by decide +kernel
theorem pd_1 : parseMethodDescriptor "(IIII)Z" = some ⟨[.int, .int, .int, .int], some .boolean⟩ := by decide +kernel
theorem d1_7 : decode method_5_code 7 = .ok (.ifCond .eq 7, 3) := by decide +kernel
theorem d1_14 : decode method_5_code 14 = .ok (.iconst 0, 1) := by decide +kernel
theorem d1_15 : decode method_5_code 15 = .ok (.ireturn, 1) := by decide +kernel
theorem d1_10 : decode method_5_code 10 = .ok (.iconst 1, 1) := by decide +kernel
theorem d1_11 : decode method_5_code 11 = .ok (.goto 4, 3) := by decide +kernel
theorem ef_1 (m : MethodId) (p1 : Int32) (p2 : Int32) (p3 : Int32) (p4 : Int32) : entryFrame m #[(.int p1), (.int p2), (.int p3), (.int p4)] 4 = mkF m 0 #[.val (.int p1), .val (.int p2), .val (.int p3), .val (.int p4)] [] := by first | (simp [entryFrame, mkF, argsToLocals, Value.category]; done) | rfl
def f1 (p1 : Int32) (p2 : Int32) (p3 : Int32) (p4 : Int32) : Int32 := (if (f2 p1 p2 p3 p4) = (0 : Int32) then (0 : Int32) else (1 : Int32))
set_option maxRecDepth 65536 in
set_option maxHeartbeats 40000000 in
theorem rm1 (l : Launch) (Z : State) (a0 : Array Value) (hw : ∀ d ∈ tables_1, d.before a0 Z = true) (ws : List Jvm.Cond) (p1 : Int32) (p2 : Int32) (p3 : Int32) (p4 : Int32) (h0 : Heap) (n0 : Nat) (Z0 : n0 ≤ h0.size) :
    MetFree l (⟨"com/example/hertzbid/hertzbid/ConflictPairsNeighboursPinLaw", "one", "(IIII)I"⟩ : MethodName) (head1 (Jvm.Cond.code (⟨"com/example/hertzbid/hertzbid/ConflictPairsNeighboursPinLaw", "one", "(IIII)I"⟩ : MethodName) method_5_code 4 (some .int) :: ws) ({ frames := 2, cells := 0, slots := 0, locals := 29 } : Room)) (fun a U => a = #[(.int p1), (.int p2), (.int p3), (.int p4)] ∧ Z.Warmed39 U.vm ∧ U.heap = h0) (fun _ _ _ _ _ => True) (fun _ U o U' => ∃ v L, o = .returned v ∧ QP (.int (f1 p1 p2 p3 p4)) h0 n0 v U'.heap L ∧ FrameEnd U o U' L ({ frames := 2, cells := 0, slots := 0, locals := 29 } : Room).cells ({ frames := 2, cells := 0, slots := 0, locals := 29 } : Room).slots) := by
  refine MetFree.of_bodySF (plainFor_of_name pn_0) hisR ?_
  intro p e s m args below meth c s₁ Bd hml0 hP hK
  obtain ⟨rfl, hZ, hh⟩ := hP
  have hx := Bd.exec
  have hby := Bd.bytes
  have hml : c.maxLocals = 4 := hml0
  have hown : s.vm.findClass "com/example/hertzbid/hertzbid/ConflictPairsNeighboursPinLaw" = some m.cls := findClass_of_methodNamed Bd.named
  have hnm := (name_of_methodNamed Bd.named Bd.method).1
  have X0 : Stand p l e ({ frames := 2, cells := 0, slots := 0, locals := 29 } : Room) s m #[(.int p1), (.int p2), (.int p3), (.int p4)] below meth c s₁ [] 0 0 := Stand.of_body Bd
  have e0 : s₁.heap = h0 := by rw [← hh, Bd.state]; rfl
  have N0 := Fr.nil n0
  refine Go.done (Go.step (fun t k => castTop (ef_1 m p1 p2 p3 p4) k) ?_)
  have KK0 : Keep h0 h0 [] := Keep.refl _ _
  show Go p e below _ (s₁.setTop (mkF m 0 _ []))
  refine gI (q := 1) X0 hx (hb hby d1_0) rfl rfl ?_
  refine gI (q := 2) X0 hx (hb hby d1_1) rfl rfl ?_
  refine gI (q := 3) X0 hx (hb hby d1_2) rfl rfl ?_
  refine gI (q := 4) X0 hx (hb hby d1_3) rfl rfl ?_
  obtain ⟨_, _, ⟨T5, L5, k5, n5⟩, -, X5, ⟨Lc5, hQ5, l5, y5, z5⟩, st5⟩ := Jvm.LawKit.callS X0 hx (y := (⟨"com/example/hertzbid/hertzbid/ConflictPairsNeighboursPinLaw", "in", "(IIII)Z"⟩ : MethodName)) hown (mvT hZ (hw _ (List.mem_of_getElem? (i := 5) rfl))) (mvT hZ (hw _ (List.mem_of_getElem? (i := 6) rfl))) (mvT hZ (hw _ (List.mem_of_getElem? (i := 3) rfl))) (mvT hZ (hw _ (List.mem_of_getElem? (i := 7) rfl))) (by decide) (backOf (W := 0) (rm2 l Z a0 hw [] p1 p2 p3 p4 h0 n0 Z0) hZ (hw _ (List.mem_of_getElem? (i := 7) rfl)) (hw _ (List.mem_of_getElem? (i := 3) rfl)) (by decide) (by decide)) (g := (mkF m 4 #[.val (.int p1), .val (.int p2), .val (.int p3), .val (.int p4)] [(.int p4), (.int p3), (.int p2), (.int p1)])) rfl (by rw [hml]; rfl) (argsL := [(.int p1), (.int p2), (.int p3), (.int p4)]) (rest := []) (lenOf pd_1 rfl) rfl (by show 2 * 0 + _ ≤ _; exact Nat.le_of_eq rfl) (hb hby d1_4) (fun _ _ => ⟨rfl, e0, (by decide : 0 + 0 ≤ _), (by decide : 0 + 0 ≤ _)⟩)
  dsimp only [Pt.U, Pt.locs, Pt.cells, Pt.slots] at X5 l5 y5 z5 st5 hQ5
  replace y5 : k5 = 0 := y5
  replace z5 : n5 = 0 := z5
  subst y5 z5
  obtain ⟨rfl, N5q, e5⟩ := hQ5
  have N5 : Fr n0 L5 := Eq.mpr (congrArg (Fr n0) l5) (Fr.app N0 N5q)
  refine Go.step st5 ?_
  show Go p e below _ (T5.setTop (mkF m 7 _ [(.int (f2 p1 p2 p3 p4))]))
  by_cases hc6 : (f2 p1 p2 p3 p4) = (0 : Int32)
  · refine Go.step (fun t k => XS.ifYes X5.here hx rfl (pc0 := 7) (pc' := 14) rfl (hb hby d1_7) rfl ((if0 _ _).trans (teq hc6).1) (by decide) (by decide) k) ?_
    show Go p e below _ (T5.setTop (mkF m 14 _ []))
    refine gC (q := 15) (v := 0) X5 hx (hb hby d1_14) rfl rfl ?_
    exact retGI X5 hx Bd.notSynchronized Bd.returns (hb hby d1_15) ⟨by first | (simp only [f1, if_pos hc6]; done) | rfl | (simp [f1, if_pos hc6]; done), N5, e5⟩ (by decide) (by decide)
  · refine Go.step (fun t k => XS.ifNo X5.here hx rfl (hb hby d1_7) rfl ((if0 _ _).trans (feq hc6).1) k) ?_
    show Go p e below _ (T5.setTop (mkF m 10 _ []))
    refine gC (q := 11) (v := 1) X5 hx (hb hby d1_10) rfl rfl ?_
    refine Go.step (fun t k => XS.goto X5.here hx rfl (pc0 := 11) (pc' := 15) rfl (hb hby d1_11) (by decide) (by decide) k) ?_
    show Go p e below _ (T5.setTop (mkF m 15 _ [(.int (1 : Int32))]))
    exact retGI X5 hx Bd.notSynchronized Bd.returns (hb hby d1_15) ⟨by first | (simp only [f1, if_neg hc6]; done) | rfl | (simp [f1, if_neg hc6]; done), N5, e5⟩ (by decide) (by decide)
def Two (a b : Slot) : Prop := (a = .unset ∧ b = .unset) ∨ ∃ z : Int64, a = .val (.long z) ∧ b = .second
theorem Two.u : Two .unset .unset := Or.inl ⟨rfl, rfl⟩
theorem Two.v {z : Int64} : Two (.val (.long z)) .second := Or.inr ⟨z, rfl, rfl⟩
def enc (p : Nat × Nat) : Int64 := Int64.ofNat (p.1 * 4294967296 + p.2)
def encF (E : List (Nat × Nat)) (k : Nat) : Int64 := enc (E.getD k (0, 0))
def putE (c : Int32) (p : Nat × Nat) (E : List (Nat × Nat)) : List (Nat × Nat) := if c = 0 then E else E ++ [p]
def nb (E : List (Nat × Nat)) (i : Nat) : List Nat := E.filterMap fun p => if p.1 = i then some p.2 else if p.2 = i then some p.1 else none
def rowF (l : List Nat) (j : Nat) : Int32 := Int32.ofNat (l.getD j 0)
def degF (E : List (Nat × Nat)) (k i : Nat) : Int32 := Int32.ofNat (nb (E.take k) i).length
theorem encNil (i : Nat) : (0 : Int64) = encF [] i := by unfold encF; simp; decide
theorem putE0 {c : Int32} {p : Nat × Nat} {E : List (Nat × Nat)} (h : c = 0) : putE c p E = E := if_pos h
theorem putE1 {c : Int32} {p : Nat × Nat} {E : List (Nat × Nat)} (h : ¬ c = 0) : putE c p E = E ++ [p] := if_neg h
theorem putV1 {c : Int32} {p : Nat × Nat} {E : List (Nat × Nat)} (h : ¬ c = 0) : Int32.ofNat E.length + 1 = Int32.ofNat (putE c p E).length := by
  rw [putE1 h, succ32, List.length_append]; rfl
theorem getD_snoc {α : Type} (l : List α) (x d : α) (k : Nat) : (l ++ [x]).getD k d = if k = l.length then x else l.getD k d := by
  by_cases h : k < l.length
  · rw [if_neg (by omega)]; simp [List.getD, List.getElem?_append_left h]
  · by_cases e : k = l.length
    · subst e; simp [List.getD]
    · rw [if_neg e]
      have h1 : (l ++ [x])[k]? = none := List.getElem?_eq_none (by simp; omega)
      have h2 : l[k]? = none := List.getElem?_eq_none (by omega)
      simp [List.getD, h1, h2]
theorem putA1 {c : Int32} {p : Nat × Nat} {E : List (Nat × Nat)} (h : ¬ c = 0) (hl : E.length < 2147483648) {z : Int64} (hz : z = enc p) (i : Nat) : upA (encF E) (Int32.ofNat E.length).toNatClampNeg z i = encF (putE c p E) i := by
  rw [putE1 h, clamp_nat hl, hz]
  unfold upA encF
  rw [getD_snoc]
  split <;> rfl
theorem nb_snoc (E : List (Nat × Nat)) (p : Nat × Nat) (i : Nat) : nb (E ++ [p]) i = nb E i ++ nb [p] i := by simp [nb]
theorem take_one {E : List (Nat × Nat)} {j : Nat} {p : Nat × Nat} (hj : j < E.length) (hq : E.getD j (0, 0) = p) : E.take (j + 1) = E.take j ++ [p] := by
  have : E[j]? = some p := by
    rw [List.getElem?_eq_getElem hj]
    have := hq
    simp [List.getD, List.getElem?_eq_getElem hj] at this
    rw [this]
  rw [List.take_add_one, this]; rfl
theorem nb1 (a b : Nat) : nb [(a, b)] a = [b] := by simp [nb]
theorem nb2 {a b : Nat} (h : a ≠ b) : nb [(a, b)] b = [a] := by simp [nb, h]
theorem nb3 {a b i : Nat} (h : a ≠ i) (h' : b ≠ i) : nb [(a, b)] i = [] := by simp [nb, h, h']
theorem nbA {E : List (Nat × Nat)} {j a b : Nat} (hj : j < E.length) (hq : E.getD j (0, 0) = (a, b)) : nb (E.take (j + 1)) a = nb (E.take j) a ++ [b] := by rw [take_one hj hq, nb_snoc, nb1]
theorem nbB {E : List (Nat × Nat)} {j a b : Nat} (hj : j < E.length) (hq : E.getD j (0, 0) = (a, b)) (h : a ≠ b) : nb (E.take (j + 1)) b = nb (E.take j) b ++ [a] := by rw [take_one hj hq, nb_snoc, nb2 h]
theorem nbC {E : List (Nat × Nat)} {j a b i : Nat} (hj : j < E.length) (hq : E.getD j (0, 0) = (a, b)) (h : a ≠ i) (h' : b ≠ i) : nb (E.take (j + 1)) i = nb (E.take j) i := by rw [take_one hj hq, nb_snoc, nb3 h h', List.append_nil]
theorem deg0 (E : List (Nat × Nat)) (i : Nat) : (0 : Int32) = degF E 0 i := by simp [degF, nb]
theorem degS {E : List (Nat × Nat)} {j a b : Nat} (hj : j < E.length) (hq : E.getD j (0, 0) = (a, b)) (h : a ≠ b) (i : Nat) : upA (upA (degF E j) a ((degF E j) a + 1)) b ((degF E j) b + 1) i = degF E (j + 1) i := by
  unfold upA degF
  by_cases hb : i = b
  · subst hb; rw [if_pos rfl, nbB hj hq h, List.length_append, succ32]; rfl
  · rw [if_neg hb]
    by_cases ha : i = a
    · subst ha; rw [if_pos rfl, nbA hj hq, List.length_append, succ32]; rfl
    · rw [if_neg ha, nbC hj hq (Ne.symm ha) (Ne.symm hb)]
theorem nb_len (E : List (Nat × Nat)) (i : Nat) : (nb E i).length ≤ E.length := List.length_filterMap_le _ _
theorem nb_take (E : List (Nat × Nat)) (k i : Nat) : (nb (E.take k) i).length ≤ (nb E i).length := by
  have : nb E i = nb (E.take k) i ++ nb (E.drop k) i := by
    unfold nb; rw [← List.filterMap_append, List.take_append_drop]
  rw [this, List.length_append]; omega
theorem degT (E : List (Nat × Nat)) (i : Nat) (h10 : E.length ≤ 10) : ¬ ((degF E E.length) i) < 0 ∧ ((degF E E.length) i).toNatClampNeg ≤ 10 ∧ ((degF E E.length) i).toNatClampNeg = (nb E i).length := by
  have := nb_len E i
  unfold degF
  rw [List.take_length]
  refine ⟨of_nn (by omega), ?_, clamp_nat (by omega)⟩
  rw [clamp_nat (by omega)]; omega
theorem degB {E : List (Nat × Nat)} {k i : Nat} (h10 : E.length ≤ 10) (h : (nb (E.take k) i).length < (nb E i).length) : ¬ ((degF E k) i) < 0 ∧ ((degF E k) i).toNatClampNeg < (nb E i).length := by
  have := nb_len E i
  unfold degF
  refine ⟨of_nn (by omega), ?_⟩
  rw [clamp_nat (by omega)]; exact h
theorem ltA {E : List (Nat × Nat)} {j a b : Nat} (hj : j < E.length) (hq : E.getD j (0, 0) = (a, b)) : (nb (E.take j) a).length < (nb E a).length := by
  have h1 := nb_take E (j + 1) a
  rw [nbA hj hq, List.length_append] at h1
  have : [b].length = 1 := rfl
  omega
theorem ltB {E : List (Nat × Nat)} {j a b : Nat} (hj : j < E.length) (hq : E.getD j (0, 0) = (a, b)) (h : a ≠ b) : (nb (E.take j) b).length < (nb E b).length := by
  have h1 := nb_take E (j + 1) b
  rw [nbB hj hq h, List.length_append] at h1
  have : [a].length = 1 := rfl
  omega
theorem row0 (E : List (Nat × Nat)) (i j : Nat) : (0 : Int32) = rowF (nb (E.take 0) i) j := by simp [rowF, nb]
theorem rowS (l : List Nat) (b i : Nat) (hl : l.length < 2147483648) (k : Nat) (hk : k = l.length) : upA (rowF l) k (Int32.ofNat b) i = rowF (l ++ [b]) i := by
  subst hk
  unfold upA rowF
  rw [getD_snoc]
  split <;> rfl
theorem rowA {E : List (Nat × Nat)} {j a b : Nat} {z : Int32} (h10 : E.length ≤ 10) (hj : j < E.length) (hq : E.getD j (0, 0) = (a, b)) (hz : z = Int32.ofNat b) (i : Nat) : upA (rowF (nb (E.take j) a)) ((degF E j) a).toNatClampNeg z i = rowF (nb (E.take (j + 1)) a) i := by
  have h1 := nb_len (E.take j) a
  have h2 : (E.take j).length ≤ 10 := by rw [List.length_take]; omega
  rw [hz, nbA hj hq]
  exact rowS _ _ _ (by omega) _ (clamp_nat (by omega))
theorem rowB {E : List (Nat × Nat)} {j a b : Nat} {z : Int32} (h10 : E.length ≤ 10) (hj : j < E.length) (hq : E.getD j (0, 0) = (a, b)) (h : a ≠ b) (hz : z = Int32.ofNat a) (i : Nat) : upA (rowF (nb (E.take j) b)) ((degF E j) b).toNatClampNeg z i = rowF (nb (E.take (j + 1)) b) i := by
  have h1 := nb_len (E.take j) b
  have h2 : (E.take j).length ≤ 10 := by rw [List.length_take]; omega
  rw [hz, nbB hj hq h]
  exact rowS _ _ _ (by omega) _ (clamp_nat (by omega))
theorem memD {E : List (Nat × Nat)} {j : Nat} (hj : j < E.length) : E.getD j (0, 0) ∈ E := by
  simp [List.getD, List.getElem?_eq_getElem hj]
theorem j_lt {j n : Nat} (hn : n ≤ 10) (hj : j ≤ n) (h : Int32.ofNat j < n.toInt32) : j < n := (of_lt (by omega) (by omega)).mp h
theorem j_ge {j n : Nat} (hn : n ≤ 10) (hj : j ≤ n) (h : ¬ Int32.ofNat j < n.toInt32) : j = n := by
  have : ¬ j < n := fun q => h ((of_lt (by omega) (by omega)).mpr q)
  omega
theorem at_lt {k : Int32} {n : Nat} (hn : n < 2147483648) (h0 : ¬ k < 0) (h : k < n.toInt32) : k.toNatClampNeg < n := by
  rw [Int32.lt_iff_toInt_lt, nat32 hn] at h
  have := nat_of h0
  omega
def oN (c : Int32) : Nat := if c = 0 then 0 else 1
theorem oN_le (c : Int32) : oN c ≤ 1 := by unfold oN; split <;> omega
theorem oN_1 {c : Int32} (h : ¬ c = 0) : oN c = 1 := if_neg h
theorem lenP (c : Int32) (p : Nat × Nat) (E : List (Nat × Nat)) : (putE c p E).length = E.length + oN c := by
  unfold putE oN; split
  · rfl
  · rw [List.length_append]; rfl
theorem memP {q : Nat × Nat} {c : Int32} {p : Nat × Nat} {E : List (Nat × Nat)} (h : q ∈ putE c p E) : q ∈ E ∨ (¬ c = 0 ∧ q = p) := by
  unfold putE at h; split at h
  · exact Or.inl h
  · rename_i hc
    rcases List.mem_append.mp h with h | h
    · exact Or.inl h
    · exact Or.inr ⟨hc, List.mem_singleton.mp h⟩
theorem nbP (c : Int32) (p : Nat × Nat) (E : List (Nat × Nat)) (i : Nat) : nb (putE c p E) i = if c = 0 then nb E i else nb E i ++ nb [p] i := by
  unfold putE; split
  · rfl
  · exact nb_snoc _ _ _
theorem nbK {c : Int32} {a b : Nat} {E : List (Nat × Nat)} {i : Nat} (h : a ≠ i) (h' : b ≠ i) : nb (putE c (a, b) E) i = nb E i := by
  rw [nbP, nb3 h h', List.append_nil]; split <;> rfl

theorem d7_0 : decode prog_18_method_3_code 0 = .ok (.lload_n 0, 1) := by decide +kernel
theorem d7_1 : decode prog_18_method_3_code 1 = .ok (.bipush 32, 2) := by decide +kernel
theorem d7_3 : decode prog_18_method_3_code 3 = .ok (.lushr, 1) := by decide +kernel
theorem d7_4 : decode prog_18_method_3_code 4 = .ok (.l2i, 1) := by decide +kernel
theorem d7_5 : decode prog_18_method_3_code 5 = .ok (.ireturn, 1) := by decide +kernel
theorem ef_7 (m : MethodId) (q1 : Int64) : entryFrame m #[(.long q1)] 2 = mkF m 0 #[.val (.long q1), .second] [] := by first | (simp [entryFrame, mkF, argsToLocals, Value.category]; done) | rfl
theorem pn_1 : plainName "com/example/hertzbid/hertzbid/ConflictPairs" = true := by first | (simp [plainName, overriddenIn]; done) | decide +kernel
def f7 (q1 : Int64) : Int32 := (((q1.toUInt64 >>> ((32 : Int32) &&& 0x3f).toInt64.toUInt64).toInt64).toInt32)
set_option maxRecDepth 65536 in
set_option maxHeartbeats 40000000 in
theorem rm7 (l : Launch) (Z : State) (a0 : Array Value) (hw : ∀ d ∈ tables_1, d.before a0 Z = true) (ws : List Jvm.Cond) (q1 : Int64) (h0 : Heap) (n0 : Nat) (Z0 : n0 ≤ h0.size) :
    MetFree l (⟨"com/example/hertzbid/hertzbid/ConflictPairs", "first", "(J)I"⟩ : MethodName) (head1 (Jvm.Cond.code (⟨"com/example/hertzbid/hertzbid/ConflictPairs", "first", "(J)I"⟩ : MethodName) prog_18_method_3_code 2 (some .int) :: ws) ({ frames := 0, cells := 0, slots := 0, locals := 0 } : Room)) (fun a U => a = #[(.long q1)] ∧ Z.Warmed39 U.vm ∧ U.heap = h0) (fun _ _ _ _ _ => True) (fun _ U o U' => ∃ v L, o = .returned v ∧ QP (.int (f7 q1)) h0 n0 v U'.heap L ∧ FrameEnd U o U' L ({ frames := 0, cells := 0, slots := 0, locals := 0 } : Room).cells ({ frames := 0, cells := 0, slots := 0, locals := 0 } : Room).slots) := by
  refine MetFree.of_bodySF (plainFor_of_name pn_1) hisR ?_
  intro p e s m args below meth c s₁ Bd hml0 hP hK
  obtain ⟨rfl, hZ, hh⟩ := hP
  have hx := Bd.exec
  have hby := Bd.bytes
  have hml : c.maxLocals = 2 := hml0
  have hown : s.vm.findClass "com/example/hertzbid/hertzbid/ConflictPairs" = some m.cls := findClass_of_methodNamed Bd.named
  have hnm := (name_of_methodNamed Bd.named Bd.method).1
  have X0 : Stand p l e ({ frames := 0, cells := 0, slots := 0, locals := 0 } : Room) s m #[(.long q1)] below meth c s₁ [] 0 0 := Stand.of_body Bd
  have e0 : s₁.heap = h0 := by rw [← hh, Bd.state]; rfl
  have N0 := Fr.nil n0
  refine Go.done (Go.step (fun t k => castTop (ef_7 m q1) k) ?_)
  have KK0 : Keep h0 h0 [] := Keep.refl _ _
  show Go p e below _ (s₁.setTop (mkF m 0 _ []))
  refine Go.step (fun t k => XS.lloadN X0.here hx rfl (hb hby d7_0) rfl k) ?_
  show Go p e below _ (s₁.setTop (mkF m 1 _ [(.long q1)]))
  refine Go.step (fun t k => XS.bipush X0.here hx rfl (hb hby d7_1)  k) ?_
  show Go p e below _ (s₁.setTop (mkF m 3 _ [(.int (32 : Int32)), (.long q1)]))
  refine Go.step (fun t k => XS.lushr X0.here hx rfl (hb hby d7_3) rfl k) ?_
  show Go p e below _ (s₁.setTop (mkF m 4 _ [(.long ((q1.toUInt64 >>> ((32 : Int32) &&& 0x3f).toInt64.toUInt64).toInt64))]))
  refine Go.step (fun t k => XS.l2i X0.here hx rfl (hb hby d7_4) rfl k) ?_
  show Go p e below _ (s₁.setTop (mkF m 5 _ [(.int (((q1.toUInt64 >>> ((32 : Int32) &&& 0x3f).toInt64.toUInt64).toInt64).toInt32))]))
  exact retGI X0 hx Bd.notSynchronized Bd.returns (hb hby d7_5) ⟨by first | rfl | (simp only [f7]; done) | (simp [f7]; done), N0, e0⟩ (by decide) (by decide)
theorem d8_0 : decode prog_18_method_4_code 0 = .ok (.lload_n 0, 1) := by decide +kernel
theorem d8_1 : decode prog_18_method_4_code 1 = .ok (.l2i, 1) := by decide +kernel
theorem d8_2 : decode prog_18_method_4_code 2 = .ok (.ireturn, 1) := by decide +kernel
theorem ef_8 (m : MethodId) (q1 : Int64) : entryFrame m #[(.long q1)] 2 = mkF m 0 #[.val (.long q1), .second] [] := by first | (simp [entryFrame, mkF, argsToLocals, Value.category]; done) | rfl
def f8 (q1 : Int64) : Int32 := (q1.toInt32)
set_option maxRecDepth 65536 in
set_option maxHeartbeats 40000000 in
theorem rm8 (l : Launch) (Z : State) (a0 : Array Value) (hw : ∀ d ∈ tables_1, d.before a0 Z = true) (ws : List Jvm.Cond) (q1 : Int64) (h0 : Heap) (n0 : Nat) (Z0 : n0 ≤ h0.size) :
    MetFree l (⟨"com/example/hertzbid/hertzbid/ConflictPairs", "second", "(J)I"⟩ : MethodName) (head1 (Jvm.Cond.code (⟨"com/example/hertzbid/hertzbid/ConflictPairs", "second", "(J)I"⟩ : MethodName) prog_18_method_4_code 2 (some .int) :: ws) ({ frames := 0, cells := 0, slots := 0, locals := 0 } : Room)) (fun a U => a = #[(.long q1)] ∧ Z.Warmed39 U.vm ∧ U.heap = h0) (fun _ _ _ _ _ => True) (fun _ U o U' => ∃ v L, o = .returned v ∧ QP (.int (f8 q1)) h0 n0 v U'.heap L ∧ FrameEnd U o U' L ({ frames := 0, cells := 0, slots := 0, locals := 0 } : Room).cells ({ frames := 0, cells := 0, slots := 0, locals := 0 } : Room).slots) := by
  refine MetFree.of_bodySF (plainFor_of_name pn_1) hisR ?_
  intro p e s m args below meth c s₁ Bd hml0 hP hK
  obtain ⟨rfl, hZ, hh⟩ := hP
  have hx := Bd.exec
  have hby := Bd.bytes
  have hml : c.maxLocals = 2 := hml0
  have hown : s.vm.findClass "com/example/hertzbid/hertzbid/ConflictPairs" = some m.cls := findClass_of_methodNamed Bd.named
  have hnm := (name_of_methodNamed Bd.named Bd.method).1
  have X0 : Stand p l e ({ frames := 0, cells := 0, slots := 0, locals := 0 } : Room) s m #[(.long q1)] below meth c s₁ [] 0 0 := Stand.of_body Bd
  have e0 : s₁.heap = h0 := by rw [← hh, Bd.state]; rfl
  have N0 := Fr.nil n0
  refine Go.done (Go.step (fun t k => castTop (ef_8 m q1) k) ?_)
  have KK0 : Keep h0 h0 [] := Keep.refl _ _
  show Go p e below _ (s₁.setTop (mkF m 0 _ []))
  refine Go.step (fun t k => XS.lloadN X0.here hx rfl (hb hby d8_0) rfl k) ?_
  show Go p e below _ (s₁.setTop (mkF m 1 _ [(.long q1)]))
  refine Go.step (fun t k => XS.l2i X0.here hx rfl (hb hby d8_1) rfl k) ?_
  show Go p e below _ (s₁.setTop (mkF m 2 _ [(.int (q1.toInt32))]))
  exact retGI X0 hx Bd.notSynchronized Bd.returns (hb hby d8_2) ⟨by first | rfl | (simp only [f8]; done) | (simp [f8]; done), N0, e0⟩ (by decide) (by decide)
theorem pick_0 {ee : List (Nat × Nat)} {j : Nat} (hE : ∀ p ∈ ee, False) (hj : j < ee.length) : ∃ a b, ee.getD j (0, 0) = (a, b) ∧ a < b ∧ b < 0 ∧ (False) := by
  have h := hE _ (memD hj)
  exact h.elim
theorem pick_1 {ee : List (Nat × Nat)} {j : Nat} (hE : ∀ p ∈ ee, False) (hj : j < ee.length) : ∃ a b, ee.getD j (0, 0) = (a, b) ∧ a < b ∧ b < 1 ∧ (False) := by
  have h := hE _ (memD hj)
  exact h.elim
theorem pick_2 {ee : List (Nat × Nat)} {j : Nat} (hE : ∀ p ∈ ee, p = (0, 1)) (hj : j < ee.length) : ∃ a b, ee.getD j (0, 0) = (a, b) ∧ a < b ∧ b < 2 ∧ ((a = 0 ∧ b = 1)) := by
  have h := hE _ (memD hj)
  exact ⟨0, 1, h, by decide, by decide, by simp⟩
theorem pick_3 {ee : List (Nat × Nat)} {j : Nat} (hE : ∀ p ∈ ee, p = (0, 1) ∨ p = (0, 2) ∨ p = (1, 2)) (hj : j < ee.length) : ∃ a b, ee.getD j (0, 0) = (a, b) ∧ a < b ∧ b < 3 ∧ ((a = 0 ∧ b = 1) ∨ (a = 0 ∧ b = 2) ∨ (a = 1 ∧ b = 2)) := by
  have h := hE _ (memD hj)
  rcases h with h | h | h
  · exact ⟨0, 1, h, by decide, by decide, by simp⟩
  · exact ⟨0, 2, h, by decide, by decide, by simp⟩
  · exact ⟨1, 2, h, by decide, by decide, by simp⟩
theorem pick_4 {ee : List (Nat × Nat)} {j : Nat} (hE : ∀ p ∈ ee, p = (0, 1) ∨ p = (0, 2) ∨ p = (0, 3) ∨ p = (1, 2) ∨ p = (1, 3) ∨ p = (2, 3)) (hj : j < ee.length) : ∃ a b, ee.getD j (0, 0) = (a, b) ∧ a < b ∧ b < 4 ∧ ((a = 0 ∧ b = 1) ∨ (a = 0 ∧ b = 2) ∨ (a = 0 ∧ b = 3) ∨ (a = 1 ∧ b = 2) ∨ (a = 1 ∧ b = 3) ∨ (a = 2 ∧ b = 3)) := by
  have h := hE _ (memD hj)
  rcases h with h | h | h | h | h | h
  · exact ⟨0, 1, h, by decide, by decide, by simp⟩
  · exact ⟨0, 2, h, by decide, by decide, by simp⟩
  · exact ⟨0, 3, h, by decide, by decide, by simp⟩
  · exact ⟨1, 2, h, by decide, by decide, by simp⟩
  · exact ⟨1, 3, h, by decide, by decide, by simp⟩
  · exact ⟨2, 3, h, by decide, by decide, by simp⟩
theorem pick_5 {ee : List (Nat × Nat)} {j : Nat} (hE : ∀ p ∈ ee, p = (0, 1) ∨ p = (0, 2) ∨ p = (0, 3) ∨ p = (0, 4) ∨ p = (1, 2) ∨ p = (1, 3) ∨ p = (1, 4) ∨ p = (2, 3) ∨ p = (2, 4) ∨ p = (3, 4)) (hj : j < ee.length) : ∃ a b, ee.getD j (0, 0) = (a, b) ∧ a < b ∧ b < 5 ∧ ((a = 0 ∧ b = 1) ∨ (a = 0 ∧ b = 2) ∨ (a = 0 ∧ b = 3) ∨ (a = 0 ∧ b = 4) ∨ (a = 1 ∧ b = 2) ∨ (a = 1 ∧ b = 3) ∨ (a = 1 ∧ b = 4) ∨ (a = 2 ∧ b = 3) ∨ (a = 2 ∧ b = 4) ∨ (a = 3 ∧ b = 4)) := by
  have h := hE _ (memD hj)
  rcases h with h | h | h | h | h | h | h | h | h | h
  · exact ⟨0, 1, h, by decide, by decide, by simp⟩
  · exact ⟨0, 2, h, by decide, by decide, by simp⟩
  · exact ⟨0, 3, h, by decide, by decide, by simp⟩
  · exact ⟨0, 4, h, by decide, by decide, by simp⟩
  · exact ⟨1, 2, h, by decide, by decide, by simp⟩
  · exact ⟨1, 3, h, by decide, by decide, by simp⟩
  · exact ⟨1, 4, h, by decide, by decide, by simp⟩
  · exact ⟨2, 3, h, by decide, by decide, by simp⟩
  · exact ⟨2, 4, h, by decide, by decide, by simp⟩
  · exact ⟨3, 4, h, by decide, by decide, by simp⟩
theorem f7_enc {a b : Nat} (h : a < b) (hb : b < 5) : f7 (enc (a, b)) = Int32.ofNat a := by
  have : ∀ b : Fin 5, ∀ a : Fin 5, f7 (enc (a.val, b.val)) = Int32.ofNat a.val := by decide +kernel
  exact this ⟨b, hb⟩ ⟨a, by omega⟩
theorem f8_enc {a b : Nat} (h : a < b) (hb : b < 5) : f8 (enc (a, b)) = Int32.ofNat b := by
  have : ∀ b : Fin 5, ∀ a : Fin 5, f8 (enc (a.val, b.val)) = Int32.ofNat b.val := by decide +kernel
  exact this ⟨b, hb⟩ ⟨a, by omega⟩
theorem d3_0 : decode method_6_code 0 = .ok (.iload_n 2, 1) := by decide +kernel
theorem d3_1 : decode method_6_code 1 = .ok (.iload_n 3, 1) := by decide +kernel
theorem d3_2 : decode method_6_code 2 = .ok (.iload 4, 2) := by decide +kernel
theorem d3_4 : decode method_6_code 4 = .ok (.iload 5, 2) := by decide +kernel
theorem d3_6 : decode method_6_code 6 = .ok (.invokestatic 32, 3) := by decide +kernel
theorem d3_9 : decode method_6_code 9 = .ok (.ifCond .eq 20, 3) := by decide +kernel
theorem d3_29 : decode method_6_code 29 = .ok (.iload_n 1, 1) := by decide +kernel
theorem d3_30 : decode method_6_code 30 = .ok (.ireturn, 1) := by decide +kernel
theorem d3_12 : decode method_6_code 12 = .ok (.aload_n 0, 1) := by decide +kernel
theorem d3_13 : decode method_6_code 13 = .ok (.iload_n 1, 1) := by decide +kernel
theorem d3_14 : decode method_6_code 14 = .ok (.iload 4, 2) := by decide +kernel
theorem d3_16 : decode method_6_code 16 = .ok (.i2l, 1) := by decide +kernel
theorem d3_17 : decode method_6_code 17 = .ok (.bipush 32, 2) := by decide +kernel
theorem d3_19 : decode method_6_code 19 = .ok (.lshl, 1) := by decide +kernel
theorem d3_20 : decode method_6_code 20 = .ok (.iload 5, 2) := by decide +kernel
theorem d3_22 : decode method_6_code 22 = .ok (.i2l, 1) := by decide +kernel
theorem d3_23 : decode method_6_code 23 = .ok (.lor, 1) := by decide +kernel
theorem d3_24 : decode method_6_code 24 = .ok (.lastore, 1) := by decide +kernel
theorem d3_25 : decode method_6_code 25 = .ok (.iload_n 1, 1) := by decide +kernel
theorem d3_26 : decode method_6_code 26 = .ok (.iconst 1, 1) := by decide +kernel
theorem d3_27 : decode method_6_code 27 = .ok (.iadd, 1) := by decide +kernel
theorem d3_28 : decode method_6_code 28 = .ok (.ireturn, 1) := by decide +kernel
theorem ef_3 (m : MethodId) (a1 : Addr) (p3 : Int32) (p4 : Int32) (p5 : Int32) (p6 : Int32) {ee : List (Nat × Nat)} : entryFrame m #[(.ref a1), (.int (Int32.ofNat ee.length)), (.int p3), (.int p4), (.int p5), (.int p6)] 6 = mkF m 0 #[.val (.ref a1), .val (.int (Int32.ofNat ee.length)), .val (.int p3), .val (.int p4), .val (.int p5), .val (.int p6)] [] := by first | (simp [entryFrame, mkF, argsToLocals, Value.category]; done) | rfl
def Q3 (Z : State) (a1 : Addr) (p3 : Int32) (p4 : Int32) (p5 : Int32) (p6 : Int32) (n_p : Nat) (ee : List (Nat × Nat)) (pp : Nat × Nat) (h0 : Heap) (n0 : Nat) (v : Option Value) (h : Heap) (L : List Loc) : Prop := v = some (.int (Int32.ofNat (putE (f2 p3 p4 p5 p6) pp ee).length)) ∧ Fr n0 L ∧ Keep h0 h [a1] ∧ Ary Z h a1 .long n_p (fun i => .long ((encF (putE (f2 p3 p4 p5 p6) pp ee)) i))
set_option maxRecDepth 65536 in
set_option maxHeartbeats 40000000 in
theorem rm3 (l : Launch) (Z : State) (a0 : Array Value) (hw : ∀ d ∈ tables_1, d.before a0 Z = true) (ws : List Jvm.Cond) (a1 : Addr) (p3 : Int32) (p4 : Int32) (p5 : Int32) (p6 : Int32) (n_p : Nat) (ee : List (Nat × Nat)) (pp : Nat × Nat) (h0 : Heap) (n0 : Nat) (Z0 : n0 ≤ h0.size) (hbb : ¬ ((f2 p3 p4 p5 p6) = (0 : Int32)) → ee.length < n_p) (hl : ee.length < 2147483648) (hz : ((p5.toInt64 <<< ((32 : Int32) &&& 0x3f).toInt64) ||| (p6.toInt64)) = enc pp) (A_a1 : Ary Z h0 a1 .long n_p (fun i => .long ((encF ee) i))) (g_a1 : n0 ≤ a1) :
    MetFree l (⟨"com/example/hertzbid/hertzbid/ConflictPairsNeighboursPinLaw", "put", "([JIIIII)I"⟩ : MethodName) (head1 (Jvm.Cond.code (⟨"com/example/hertzbid/hertzbid/ConflictPairsNeighboursPinLaw", "put", "([JIIIII)I"⟩ : MethodName) method_6_code 6 (some .int) :: ws) ({ frames := 2, cells := 0, slots := 0, locals := 29 } : Room)) (fun a U => a = #[(.ref a1), (.int (Int32.ofNat ee.length)), (.int p3), (.int p4), (.int p5), (.int p6)] ∧ Z.Warmed39 U.vm ∧ U.heap = h0) (fun _ _ _ _ _ => True) (fun _ U o U' => ∃ v L, o = .returned v ∧ Q3 Z a1 p3 p4 p5 p6 n_p ee pp h0 n0 v U'.heap L ∧ FrameEnd U o U' L ({ frames := 2, cells := 0, slots := 0, locals := 29 } : Room).cells ({ frames := 2, cells := 0, slots := 0, locals := 29 } : Room).slots) := by
  refine MetFree.of_bodySF (plainFor_of_name pn_0) hisR ?_
  intro p e s m args below meth c s₁ Bd hml0 hP hK
  obtain ⟨rfl, hZ, hh⟩ := hP
  have hx := Bd.exec
  have hby := Bd.bytes
  have hml : c.maxLocals = 6 := hml0
  have hown : s.vm.findClass "com/example/hertzbid/hertzbid/ConflictPairsNeighboursPinLaw" = some m.cls := findClass_of_methodNamed Bd.named
  have hnm := (name_of_methodNamed Bd.named Bd.method).1
  have X0 : Stand p l e ({ frames := 2, cells := 0, slots := 0, locals := 29 } : Room) s m #[(.ref a1), (.int (Int32.ofNat ee.length)), (.int p3), (.int p4), (.int p5), (.int p6)] below meth c s₁ [] 0 0 := Stand.of_body Bd
  have e0 : s₁.heap = h0 := by rw [← hh, Bd.state]; rfl
  have N0 := Fr.nil n0
  refine Go.done (Go.step (fun t k => castTop (ef_3 m a1 p3 p4 p5 p6) k) ?_)
  have KK0 : Keep h0 h0 [a1] := Keep.refl _ _
  show Go p e below _ (s₁.setTop (mkF m 0 _ []))
  refine gI (q := 1) X0 hx (hb hby d3_0) rfl rfl ?_
  refine gI (q := 2) X0 hx (hb hby d3_1) rfl rfl ?_
  refine gJ (q := 4) X0 hx (hb hby d3_2) rfl rfl ?_
  refine gJ (q := 6) X0 hx (hb hby d3_4) rfl rfl ?_
  obtain ⟨_, _, ⟨T7, L7, k7, n7⟩, -, X7, ⟨Lc7, hQ7, l7, y7, z7⟩, st7⟩ := Jvm.LawKit.callS X0 hx (y := (⟨"com/example/hertzbid/hertzbid/ConflictPairsNeighboursPinLaw", "in", "(IIII)Z"⟩ : MethodName)) hown (mvT hZ (hw _ (List.mem_of_getElem? (i := 5) rfl))) (mvT hZ (hw _ (List.mem_of_getElem? (i := 6) rfl))) (mvT hZ (hw _ (List.mem_of_getElem? (i := 3) rfl))) (mvT hZ (hw _ (List.mem_of_getElem? (i := 7) rfl))) (by decide) (backOf (W := 0) (rm2 l Z a0 hw [] p3 p4 p5 p6 h0 n0 Z0) hZ (hw _ (List.mem_of_getElem? (i := 7) rfl)) (hw _ (List.mem_of_getElem? (i := 3) rfl)) (by decide) (by decide)) (g := (mkF m 6 #[.val (.ref a1), .val (.int (Int32.ofNat ee.length)), .val (.int p3), .val (.int p4), .val (.int p5), .val (.int p6)] [(.int p6), (.int p5), (.int p4), (.int p3)])) rfl (by rw [hml]; rfl) (argsL := [(.int p3), (.int p4), (.int p5), (.int p6)]) (rest := []) (lenOf pd_1 rfl) rfl (by show 2 * 0 + _ ≤ _; exact Nat.le_of_eq rfl) (hb hby d3_6) (fun _ _ => ⟨rfl, e0, (by decide : 0 + 0 ≤ _), (by decide : 0 + 0 ≤ _)⟩)
  dsimp only [Pt.U, Pt.locs, Pt.cells, Pt.slots] at X7 l7 y7 z7 st7 hQ7
  replace y7 : k7 = 0 := y7
  replace z7 : n7 = 0 := z7
  subst y7 z7
  obtain ⟨rfl, N7q, e7⟩ := hQ7
  have N7 : Fr n0 L7 := Eq.mpr (congrArg (Fr n0) l7) (Fr.app N0 N7q)
  refine Go.step st7 ?_
  show Go p e below _ (T7.setTop (mkF m 9 _ [(.int (f2 p3 p4 p5 p6))]))
  by_cases hc8 : (f2 p3 p4 p5 p6) = (0 : Int32)
  · refine Go.step (fun t k => XS.ifYes X7.here hx rfl (pc0 := 9) (pc' := 29) rfl (hb hby d3_9) rfl ((if0 _ _).trans (teq hc8).1) (by decide) (by decide) k) ?_
    show Go p e below _ (T7.setTop (mkF m 29 _ []))
    refine gI (q := 30) X7 hx (hb hby d3_29) rfl rfl ?_
    refine retGI X7 hx Bd.notSynchronized Bd.returns (hb hby d3_30) ?_ (by decide) (by decide)
    show Q3 Z a1 p3 p4 p5 p6 n_p ee pp h0 n0 _ T7.heap _
    rw [e7]
    exact ⟨(by rw [putE0 hc8]), N7, KK0, (by rw [putE0 hc8]; exact A_a1)⟩
  · refine Go.step (fun t k => XS.ifNo X7.here hx rfl (hb hby d3_9) rfl ((if0 _ _).trans (feq hc8).1) k) ?_
    show Go p e below _ (T7.setTop (mkF m 12 _ []))
    refine gA (q := 13) X7 hx (hb hby d3_12) rfl rfl rfl ?_
    refine gI (q := 14) X7 hx (hb hby d3_13) rfl rfl ?_
    refine gJ (q := 16) X7 hx (hb hby d3_14) rfl rfl ?_
    refine Go.step (fun t k => XS.i2l X7.here hx rfl (hb hby d3_16) rfl k) ?_
    show Go p e below _ (T7.setTop (mkF m 17 _ [(.long (p5.toInt64)), (.int (Int32.ofNat ee.length)), (.ref a1)]))
    refine Go.step (fun t k => XS.bipush X7.here hx rfl (hb hby d3_17)  k) ?_
    show Go p e below _ (T7.setTop (mkF m 19 _ [(.int (32 : Int32)), (.long (p5.toInt64)), (.int (Int32.ofNat ee.length)), (.ref a1)]))
    refine Go.step (fun t k => XS.lshl X7.here hx rfl (hb hby d3_19) rfl k) ?_
    show Go p e below _ (T7.setTop (mkF m 20 _ [(.long ((p5.toInt64) <<< ((32 : Int32) &&& 0x3f).toInt64)), (.int (Int32.ofNat ee.length)), (.ref a1)]))
    refine gJ (q := 22) X7 hx (hb hby d3_20) rfl rfl ?_
    refine Go.step (fun t k => XS.i2l X7.here hx rfl (hb hby d3_22) rfl k) ?_
    show Go p e below _ (T7.setTop (mkF m 23 _ [(.long (p6.toInt64)), (.long ((p5.toInt64) <<< ((32 : Int32) &&& 0x3f).toInt64)), (.int (Int32.ofNat ee.length)), (.ref a1)]))
    refine Go.step (fun t k => XS.lor X7.here hx rfl (hb hby d3_23) rfl k) ?_
    show Go p e below _ (T7.setTop (mkF m 24 _ [(.long (((p5.toInt64) <<< ((32 : Int32) &&& 0x3f).toInt64) ||| (p6.toInt64))), (.int (Int32.ofNat ee.length)), (.ref a1)]))
    obtain ⟨cl9, Ar9, in9, -⟩ := A_a1.hin (j := (Int32.ofNat ee.length)) (of_nn hl) (by rw [clamp_nat hl]; exact hbb hc8)
    obtain ⟨T9, h9, X9, e9, W9, st9⟩ := stJ X7 hx hZ e7 Ar9 in9 (g := (mkF m 24 #[.val (.ref a1), .val (.int (Int32.ofNat ee.length)), .val (.int p3), .val (.int p4), .val (.int p5), .val (.int p6)] [(.long (((p5.toInt64) <<< ((32 : Int32) &&& 0x3f).toInt64) ||| (p6.toInt64))), (.int (Int32.ofNat ee.length)), (.ref a1)])) rfl rfl (hb hby d3_24)
    refine Go.step st9 ?_
    have N9 := Fr.snoc X9 N7 g_a1
    have Z9 := Nat.le_trans Z0 (Keep.of_wr W9).1
    have KK9 : Keep h0 h9 [a1] := KK0.wr W9 (Or.inl (by simp))
    have A_a1_9 : Ary Z h9 a1 .long n_p (fun i => .long ((upA (encF ee) (Int32.ofNat ee.length).toNatClampNeg (((p5.toInt64) <<< ((32 : Int32) &&& 0x3f).toInt64) ||| (p6.toInt64))) i)) := A_a1.setJ W9 (by rw [clamp_nat hl]; exact hbb hc8)
    show Go p e below _ (T9.setTop (mkF m 25 _ []))
    refine gI (q := 26) X9 hx (hb hby d3_25) rfl rfl ?_
    refine gC (q := 27) (v := 1) X9 hx (hb hby d3_26) rfl rfl ?_
    refine Go.step (fun t k => XS.iadd X9.here hx rfl (hb hby d3_27) rfl k) ?_
    show Go p e below _ (T9.setTop (mkF m 28 _ [(.int ((Int32.ofNat ee.length) + (1 : Int32)))]))
    refine retGI X9 hx Bd.notSynchronized Bd.returns (hb hby d3_28) ?_ (by decide) (by decide)
    show Q3 Z a1 p3 p4 p5 p6 n_p ee pp h0 n0 _ T9.heap _
    rw [e9]
    exact ⟨(congrArg (fun z => some (Value.int z)) (putV1 hc8)), N9, KK9, (A_a1_9.congr fun i _ => congrArg Value.long (putA1 hc8 hl hz i))⟩
theorem d4_0 : decode prog_18_method_7_code 0 = .ok (.iload_n 0, 1) := by decide +kernel
theorem d4_1 : decode prog_18_method_7_code 1 = .ok (.newarray .int, 2) := by decide +kernel
theorem d4_3 : decode prog_18_method_7_code 3 = .ok (.astore_n 2, 1) := by decide +kernel
theorem d4_4 : decode prog_18_method_7_code 4 = .ok (.aload_n 1, 1) := by decide +kernel
theorem d4_5 : decode prog_18_method_7_code 5 = .ok (.astore_n 3, 1) := by decide +kernel
theorem d4_6 : decode prog_18_method_7_code 6 = .ok (.aload_n 3, 1) := by decide +kernel
theorem d4_7 : decode prog_18_method_7_code 7 = .ok (.arraylength, 1) := by decide +kernel
theorem d4_8 : decode prog_18_method_7_code 8 = .ok (.istore 4, 2) := by decide +kernel
theorem d4_10 : decode prog_18_method_7_code 10 = .ok (.iconst 0, 1) := by decide +kernel
theorem d4_11 : decode prog_18_method_7_code 11 = .ok (.istore 5, 2) := by decide +kernel
theorem d4_13 : decode prog_18_method_7_code 13 = .ok (.iload 5, 2) := by decide +kernel
theorem d4_15 : decode prog_18_method_7_code 15 = .ok (.iload 4, 2) := by decide +kernel
theorem d4_17 : decode prog_18_method_7_code 17 = .ok (.if_icmp .ge 37, 3) := by decide +kernel
theorem d4_20 : decode prog_18_method_7_code 20 = .ok (.aload_n 3, 1) := by decide +kernel
theorem d4_21 : decode prog_18_method_7_code 21 = .ok (.iload 5, 2) := by decide +kernel
theorem d4_23 : decode prog_18_method_7_code 23 = .ok (.laload, 1) := by decide +kernel
theorem d4_24 : decode prog_18_method_7_code 24 = .ok (.lstore 6, 2) := by decide +kernel
theorem d4_26 : decode prog_18_method_7_code 26 = .ok (.aload_n 2, 1) := by decide +kernel
theorem d4_54 : decode prog_18_method_7_code 54 = .ok (.iload_n 0, 1) := by decide +kernel
theorem d4_55 : decode prog_18_method_7_code 55 = .ok (.anewarray 90, 3) := by decide +kernel
theorem d4_58 : decode prog_18_method_7_code 58 = .ok (.astore_n 3, 1) := by decide +kernel
theorem d4_59 : decode prog_18_method_7_code 59 = .ok (.iconst 0, 1) := by decide +kernel
theorem d4_60 : decode prog_18_method_7_code 60 = .ok (.istore 4, 2) := by decide +kernel
theorem d4_62 : decode prog_18_method_7_code 62 = .ok (.iload 4, 2) := by decide +kernel
theorem d4_64 : decode prog_18_method_7_code 64 = .ok (.iload_n 0, 1) := by decide +kernel
theorem d4_65 : decode prog_18_method_7_code 65 = .ok (.if_icmp .ge 24, 3) := by decide +kernel
theorem d4_89 : decode prog_18_method_7_code 89 = .ok (.aload_n 1, 1) := by decide +kernel
theorem d4_90 : decode prog_18_method_7_code 90 = .ok (.astore 4, 2) := by decide +kernel
theorem d4_92 : decode prog_18_method_7_code 92 = .ok (.aload 4, 2) := by decide +kernel
theorem d4_94 : decode prog_18_method_7_code 94 = .ok (.arraylength, 1) := by decide +kernel
theorem d4_95 : decode prog_18_method_7_code 95 = .ok (.istore 5, 2) := by decide +kernel
theorem d4_97 : decode prog_18_method_7_code 97 = .ok (.iconst 0, 1) := by decide +kernel
theorem d4_98 : decode prog_18_method_7_code 98 = .ok (.istore 6, 2) := by decide +kernel
theorem d4_100 : decode prog_18_method_7_code 100 = .ok (.iload 6, 2) := by decide +kernel
theorem d4_102 : decode prog_18_method_7_code 102 = .ok (.iload 5, 2) := by decide +kernel
theorem d4_104 : decode prog_18_method_7_code 104 = .ok (.if_icmp .ge 62, 3) := by decide +kernel
theorem d4_107 : decode prog_18_method_7_code 107 = .ok (.aload 4, 2) := by decide +kernel
theorem d4_109 : decode prog_18_method_7_code 109 = .ok (.iload 6, 2) := by decide +kernel
theorem d4_111 : decode prog_18_method_7_code 111 = .ok (.laload, 1) := by decide +kernel
theorem d4_112 : decode prog_18_method_7_code 112 = .ok (.lstore 7, 2) := by decide +kernel
theorem d4_114 : decode prog_18_method_7_code 114 = .ok (.lload 7, 2) := by decide +kernel
theorem d4_166 : decode prog_18_method_7_code 166 = .ok (.aload_n 3, 1) := by decide +kernel
theorem d4_167 : decode prog_18_method_7_code 167 = .ok (.areturn, 1) := by decide +kernel
theorem ef_4_0 (m : MethodId) (a2 : Addr) : entryFrame m #[(.int (0 : Int32)), (.ref a2)] 11 = mkF m 0 #[.val (.int (0 : Int32)), .val (.ref a2), .unset, .unset, .unset, .unset, .unset, .unset, .unset, .unset, .unset] [] := by first | (simp [entryFrame, mkF, argsToLocals, Value.category]; done) | rfl
def Q4_0 (Z : State) (a2 : Addr) (ee : List (Nat × Nat)) (h0 : Heap) (n0 : Nat) (v : Option Value) (h : Heap) (L : List Loc) : Prop := ∃ (b7 : Addr), v = some (.ref b7) ∧ Fr n0 L ∧ Keep h0 h [] ∧ h0.size ≤ b7 ∧ RAry Z h b7 (.array .int) "[I" 0 (fun _ => .null)
set_option maxRecDepth 65536 in
set_option maxHeartbeats 40000000 in
theorem rm4_0 (l : Launch) (Z : State) (a0 : Array Value) (hw : ∀ d ∈ tables_1, d.before a0 Z = true) (ws : List Jvm.Cond) (a2 : Addr) (ee : List (Nat × Nat)) (h0 : Heap) (n0 : Nat) (Z0 : n0 ≤ h0.size) (hTen : ee.length ≤ 10) (hE : ∀ p ∈ ee, False) (A_a2 : Ary Z h0 a2 .long ee.length (fun i => .long ((encF ee) i))) :
    MetFree l (⟨"com/example/hertzbid/hertzbid/ConflictPairs", "neighbours", "(I[J)[[I"⟩ : MethodName) (head1 (Jvm.Cond.code (⟨"com/example/hertzbid/hertzbid/ConflictPairs", "neighbours", "(I[J)[[I"⟩ : MethodName) prog_18_method_7_code 11 (some (.array (.array .int))) :: ws) ({ frames := 0, cells := 2, slots := 0, locals := 0 } : Room)) (fun a U => a = #[(.int (0 : Int32)), (.ref a2)] ∧ Z.Warmed39 U.vm ∧ U.heap = h0) (fun _ _ _ _ _ => True) (fun _ U o U' => ∃ v L, o = .returned v ∧ Q4_0 Z a2 ee h0 n0 v U'.heap L ∧ FrameEnd U o U' L ({ frames := 0, cells := 2, slots := 0, locals := 0 } : Room).cells ({ frames := 0, cells := 2, slots := 0, locals := 0 } : Room).slots) := by
  refine MetFree.of_bodySF (plainFor_of_name pn_1) hisR ?_
  intro p e s m args below meth c s₁ Bd hml0 hP hK
  obtain ⟨rfl, hZ, hh⟩ := hP
  have hx := Bd.exec
  have hby := Bd.bytes
  have hml : c.maxLocals = 11 := hml0
  have hown : s.vm.findClass "com/example/hertzbid/hertzbid/ConflictPairs" = some m.cls := findClass_of_methodNamed Bd.named
  have hnm := (name_of_methodNamed Bd.named Bd.method).1
  have X0 : Stand p l e ({ frames := 0, cells := 2, slots := 0, locals := 0 } : Room) s m #[(.int (0 : Int32)), (.ref a2)] below meth c s₁ [] 0 0 := Stand.of_body Bd
  have e0 : s₁.heap = h0 := by rw [← hh, Bd.state]; rfl
  have N0 := Fr.nil n0
  refine Go.done (Go.step (fun t k => castTop (ef_4_0 m a2) k) ?_)
  have KK0 : Keep h0 h0 [] := Keep.refl _ _
  show Go p e below _ (s₁.setTop (mkF m 0 _ []))
  refine gI (q := 1) X0 hx (hb hby d4_0) rfl rfl ?_
  obtain ⟨T3, h3, k3, X3, e3, E3, A3, Ex3, st3⟩ := newPE X0 hx hZ (hw _ (List.mem_of_getElem? (i := 16) rfl)) e0 (g := (mkF m 1 #[.val (.int (0 : Int32)), .val (.ref a2), .unset, .unset, .unset, .unset, .unset, .unset, .unset, .unset, .unset] [(.int (0 : Int32))])) rfl (hb hby d4_1) rfl (by decide) (cap := 0) (by decide) (by decide) (by decide) (by decide) (ad := "[I") rfl
  obtain ⟨b3, g3⟩ : ∃ z, z = h0.size := ⟨_, rfl⟩
  rw [← g3] at A3 Ex3 st3
  have g_b3 : n0 ≤ b3 := Nat.le_trans Z0 (Nat.le_of_eq g3.symm)
  have sz_b3 : h0.size ≤ b3 := Nat.le_trans KK0.1 (Nat.le_of_eq g3.symm)
  have ne_a2_b3 : a2 ≠ b3 := Nat.ne_of_lt (Nat.lt_of_lt_of_le A_a2.lt (Nat.le_of_eq g3.symm))
  refine Go.step st3 ?_
  have A_a2_3 := A_a2.ext E3
  have Z3 := Nat.le_trans Z0 E3.1
  have KK3 : Keep h0 h3 [] := KK0.ext E3
  have A_b3_3 : Ary Z h3 b3 .int 0 (fun i => .int ((fun _ => (0 : Int32)) i)) := Ary.mk A3 (by decide) (by decide)
  replace X3 : Stand p l e ({ frames := 0, cells := 2, slots := 0, locals := 0 } : Room) s m #[(.int (0 : Int32)), (.ref a2)] below meth c T3 _ 1 0 := X3
  show Go p e below _ (T3.setTop (mkF m 3 _ [(.ref b3)]))
  refine Go.step (fun t k => XS.astoreN X3.here hx rfl (hb hby d4_3) rfl rfl (l' := #[.val (.int (0 : Int32)), .val (.ref a2), .val (.ref b3), .unset, .unset, .unset, .unset, .unset, .unset, .unset, .unset]) rfl k) ?_
  show Go p e below _ (T3.setTop (mkF m 4 _ []))
  refine gA (q := 5) X3 hx (hb hby d4_4) rfl rfl rfl ?_
  refine Go.step (fun t k => XS.astoreN X3.here hx rfl (hb hby d4_5) rfl rfl (l' := #[.val (.int (0 : Int32)), .val (.ref a2), .val (.ref b3), .val (.ref a2), .unset, .unset, .unset, .unset, .unset, .unset, .unset]) rfl k) ?_
  show Go p e below _ (T3.setTop (mkF m 6 _ []))
  refine gA (q := 7) X3 hx (hb hby d4_6) rfl rfl rfl ?_
  refine Go.step (lenA X3 hx hZ e3 A_a2_3 (g := (mkF m 7 _ [(.ref a2)])) rfl rfl (hb hby d4_7)) ?_
  show Go p e below _ (T3.setTop (mkF m 8 _ [(.int ee.length.toInt32)]))
  refine Go.step (fun t k => XS.istore X3.here hx rfl (hb hby d4_8) rfl (l' := #[.val (.int (0 : Int32)), .val (.ref a2), .val (.ref b3), .val (.ref a2), .val (.int ee.length.toInt32), .unset, .unset, .unset, .unset, .unset, .unset]) rfl k) ?_
  show Go p e below _ (T3.setTop (mkF m 10 _ []))
  refine gC (q := 11) (v := 0) X3 hx (hb hby d4_10) rfl rfl ?_
  refine Go.step (fun t k => XS.istore X3.here hx rfl (hb hby d4_11) rfl (l' := #[.val (.int (0 : Int32)), .val (.ref a2), .val (.ref b3), .val (.ref a2), .val (.int ee.length.toInt32), .val (.int (0 : Int32)), .unset, .unset, .unset, .unset, .unset]) rfl k) ?_
  show Go p e below _ (T3.setTop (mkF m 13 _ []))
  have LOOP13 : ∀ (mm : Nat) (j : Nat) (sl6 sm6 : Slot) (hsl6 : Two sl6 sm6) (Tl4 : State) (Ll4 : List Loc) (hl4 : Heap) (hmm : ee.length - j = mm) (hj : j ≤ ee.length) (Xl4 : Stand p l e ({ frames := 0, cells := 2, slots := 0, locals := 0 } : Room) s m #[(.int (0 : Int32)), (.ref a2)] below meth c Tl4 Ll4 1 0) (Nl4 : Fr n0 Ll4) (el4 : Tl4.heap = hl4) (KKl4 : Keep h0 hl4 []) (Zl4 : n0 ≤ hl4.size) (A_a2_l4 : Ary Z hl4 a2 .long ee.length (fun i => .long ((encF ee) i))) (A_b3_l4 : Ary Z hl4 b3 .int 0 (fun i => .int ((degF ee j) i))) (E_b3_l4 : Exa Z hl4 b3 "[I"), Go p e below (FinQ below s (Q4_0 Z a2 ee h0 n0) ({ frames := 0, cells := 2, slots := 0, locals := 0 } : Room).cells ({ frames := 0, cells := 2, slots := 0, locals := 0 } : Room).slots) (Tl4.setTop (mkF m 13 #[.val (.int (0 : Int32)), .val (.ref a2), .val (.ref b3), .val (.ref a2), .val (.int ee.length.toInt32), .val (.int (Int32.ofNat j)), sl6, sm6, .unset, .unset, .unset] [])) := by
    intro mm
    induction mm using Nat.strongRecOn with
    | _ mm ih =>
      intro j sl6 sm6 hsl6 Tl4 Ll4 hl4 hmm hj Xl4 Nl4 el4 KKl4 Zl4 A_a2_l4 A_b3_l4 E_b3_l4
      show Go p e below _ (Tl4.setTop (mkF m 13 _ []))
      refine gJ (q := 15) Xl4 hx (hb hby d4_13) rfl rfl ?_
      refine gJ (q := 17) Xl4 hx (hb hby d4_15) rfl rfl ?_
      by_cases hc5 : (Int32.ofNat j) < ee.length.toInt32
      · refine Go.step (fun t k => XS.icmpNo Xl4.here hx rfl (hb hby d4_17) rfl (tlt hc5).2.1 k) ?_
        show Go p e below _ (Tl4.setTop (mkF m 20 _ []))
        refine gA (q := 21) Xl4 hx (hb hby d4_20) rfl rfl rfl ?_
        refine gJ (q := 23) Xl4 hx (hb hby d4_21) rfl rfl ?_
        refine Go.step (ldJ Xl4 hx hZ el4 A_a2_l4 (j := (Int32.ofNat j)) (of_nn (by omega)) (by rw [clamp_nat (by omega)]; exact j_lt hTen hj hc5) (g := (mkF m 23 _ [(.int (Int32.ofNat j)), (.ref a2)])) rfl rfl (hb hby d4_23)) ?_
        show Go p e below _ (Tl4.setTop (mkF m 24 _ [(.long ((encF ee) (Int32.ofNat j).toNatClampNeg))]))
        refine nameIt (fun zz : Int64 => Go p e below _ (Tl4.setTop (mkF m 24 #[.val (.int (0 : Int32)), .val (.ref a2), .val (.ref b3), .val (.ref a2), .val (.int ee.length.toInt32), .val (.int (Int32.ofNat j)), sl6, sm6, .unset, .unset, .unset] [(.long zz)]))) ((encF ee) (Int32.ofNat j).toNatClampNeg) ?_
        intro v6 hv6
        show Go p e below _ (Tl4.setTop (mkF m 24 _ [(.long v6)]))
        refine Go.step (fun t k => XS.lstore Xl4.here hx rfl (hb hby d4_24) rfl (l' := #[.val (.int (0 : Int32)), .val (.ref a2), .val (.ref b3), .val (.ref a2), .val (.int ee.length.toInt32), .val (.int (Int32.ofNat j)), .val (.long v6), .second, .unset, .unset, .unset]) (by rcases hsl6 with ⟨rfl, rfl⟩ | ⟨w, rfl, rfl⟩ <;> rfl) k) ?_
        show Go p e below _ (Tl4.setTop (mkF m 26 _ []))
        have hjl : j < ee.length := j_lt hTen hj hc5
        obtain ⟨ea, eb, hq, hab, hbn, hor⟩ := pick_0 hE hjl
        exact hor.elim
      · refine Go.step (fun t k => XS.icmpYes Xl4.here hx rfl (pc0 := 17) (pc' := 54) rfl (hb hby d4_17) rfl (flt hc5).2.1 (by decide) (by decide) k) ?_
        show Go p e below _ (Tl4.setTop (mkF m 54 _ []))
        obtain rfl : j = ee.length := j_ge hTen hj hc5
        show Go p e below _ (Tl4.setTop (mkF m 54 _ []))
        refine gI (q := 55) Xl4 hx (hb hby d4_54) rfl rfl ?_
        obtain ⟨T7, h7, k7, X7, e7, E7, A7, Ex7, Ov7, st7⟩ := newRA Xl4 hx hZ hown (C := "[I") rfl (hw _ (List.mem_of_getElem? (i := 17) rfl)) (hw _ (List.mem_of_getElem? (i := 18) rfl)) el4 (g := (mkF m 55 #[.val (.int (0 : Int32)), .val (.ref a2), .val (.ref b3), .val (.ref a2), .val (.int ee.length.toInt32), .val (.int (Int32.ofNat ee.length)), sl6, sm6, .unset, .unset, .unset] [(.int (0 : Int32))])) rfl (hb hby d4_55) rfl (by decide) (cap := 0) (by decide) (by decide) (by decide) (by decide) (ad := "[[I") rfl
        obtain ⟨b7, g7⟩ : ∃ z, z = hl4.size := ⟨_, rfl⟩
        rw [← g7] at A7 Ex7 st7
        have g_b7 : n0 ≤ b7 := Nat.le_trans Zl4 (Nat.le_of_eq g7.symm)
        have sz_b7 : h0.size ≤ b7 := Nat.le_trans KKl4.1 (Nat.le_of_eq g7.symm)
        have ne_a2_b7 : a2 ≠ b7 := Nat.ne_of_lt (Nat.lt_of_lt_of_le A_a2_l4.lt (Nat.le_of_eq g7.symm))
        have ne_b3_b7 : b3 ≠ b7 := Nat.ne_of_lt (Nat.lt_of_lt_of_le A_b3_l4.lt (Nat.le_of_eq g7.symm))
        refine Go.step st7 ?_
        have A_a2_7 := A_a2_l4.ext E7
        have A_b3_7 := A_b3_l4.ext E7
        have E_b3_7 := E_b3_l4.ext E7
        have Z7 := Nat.le_trans Zl4 E7.1
        have KK7 : Keep h0 h7 [] := KKl4.ext E7
        have A_b7_7 : RAry Z h7 b7 (.array .int) "[I" 0 (fun _ => .null) := RAry.mk A7 Ov7 (by decide) (by decide) rfl
        replace X7 : Stand p l e ({ frames := 0, cells := 2, slots := 0, locals := 0 } : Room) s m #[(.int (0 : Int32)), (.ref a2)] below meth c T7 _ 2 0 := X7
        show Go p e below _ (T7.setTop (mkF m 58 _ [(.ref b7)]))
        refine Go.step (fun t k => XS.astoreN X7.here hx rfl (hb hby d4_58) rfl rfl (l' := #[.val (.int (0 : Int32)), .val (.ref a2), .val (.ref b3), .val (.ref b7), .val (.int ee.length.toInt32), .val (.int (Int32.ofNat ee.length)), sl6, sm6, .unset, .unset, .unset]) rfl k) ?_
        show Go p e below _ (T7.setTop (mkF m 59 _ []))
        refine gC (q := 60) (v := 0) X7 hx (hb hby d4_59) rfl rfl ?_
        refine Go.step (fun t k => XS.istore X7.here hx rfl (hb hby d4_60) rfl (l' := #[.val (.int (0 : Int32)), .val (.ref a2), .val (.ref b3), .val (.ref b7), .val (.int (0 : Int32)), .val (.int (Int32.ofNat ee.length)), sl6, sm6, .unset, .unset, .unset]) rfl k) ?_
        show Go p e below _ (T7.setTop (mkF m 62 _ []))
        refine gJ (q := 64) X7 hx (hb hby d4_62) rfl rfl ?_
        refine gI (q := 65) X7 hx (hb hby d4_64) rfl rfl ?_
        refine Go.step (fun t k => XS.icmpYes X7.here hx rfl (pc0 := 65) (pc' := 89) rfl (hb hby d4_65) rfl (flt (by decide : ¬ ((0 : Int32) < (0 : Int32)))).2.1 (by decide) (by decide) k) ?_
        show Go p e below _ (T7.setTop (mkF m 89 _ []))
        show Go p e below _ (T7.setTop (mkF m 89 _ []))
        refine gA (q := 90) X7 hx (hb hby d4_89) rfl rfl rfl ?_
        refine Go.step (fun t k => XS.astore X7.here hx rfl (hb hby d4_90) rfl rfl (l' := #[.val (.int (0 : Int32)), .val (.ref a2), .val (.ref b3), .val (.ref b7), .val (.ref a2), .val (.int (Int32.ofNat ee.length)), sl6, sm6, .unset, .unset, .unset]) rfl k) ?_
        show Go p e below _ (T7.setTop (mkF m 92 _ []))
        refine gB (q := 94) X7 hx (hb hby d4_92) rfl rfl rfl ?_
        refine Go.step (lenA X7 hx hZ e7 A_a2_7 (g := (mkF m 94 _ [(.ref a2)])) rfl rfl (hb hby d4_94)) ?_
        show Go p e below _ (T7.setTop (mkF m 95 _ [(.int ee.length.toInt32)]))
        refine Go.step (fun t k => XS.istore X7.here hx rfl (hb hby d4_95) rfl (l' := #[.val (.int (0 : Int32)), .val (.ref a2), .val (.ref b3), .val (.ref b7), .val (.ref a2), .val (.int ee.length.toInt32), sl6, sm6, .unset, .unset, .unset]) rfl k) ?_
        show Go p e below _ (T7.setTop (mkF m 97 _ []))
        refine gC (q := 98) (v := 0) X7 hx (hb hby d4_97) rfl rfl ?_
        refine Go.step (fun t k => XS.istore X7.here hx rfl (hb hby d4_98) rfl (l' := #[.val (.int (0 : Int32)), .val (.ref a2), .val (.ref b3), .val (.ref b7), .val (.ref a2), .val (.int ee.length.toInt32), .val (.int (0 : Int32)), .unset, .unset, .unset, .unset]) (by rcases hsl6 with ⟨rfl, rfl⟩ | ⟨w, rfl, rfl⟩ <;> rfl) k) ?_
        show Go p e below _ (T7.setTop (mkF m 100 _ []))
        have LOOP100 : ∀ (mm : Nat) (kk : Nat) (sl9 : Slot) (hsl9 : One sl9) (sl10 : Slot) (hsl10 : One sl10) (sl7 sm7 : Slot) (hsl7 : Two sl7 sm7) (Tl8 : State) (Ll8 : List Loc) (hl8 : Heap) (hmm : ee.length - kk = mm) (hk : kk ≤ ee.length) (Xl8 : Stand p l e ({ frames := 0, cells := 2, slots := 0, locals := 0 } : Room) s m #[(.int (0 : Int32)), (.ref a2)] below meth c Tl8 Ll8 2 0) (Nl8 : Fr n0 Ll8) (el8 : Tl8.heap = hl8) (KKl8 : Keep h0 hl8 []) (Zl8 : n0 ≤ hl8.size) (A_a2_l8 : Ary Z hl8 a2 .long ee.length (fun i => .long ((encF ee) i))) (A_b3_l8 : Ary Z hl8 b3 .int 0 (fun i => .int ((degF ee kk) i))) (A_b7_l8 : RAry Z hl8 b7 (.array .int) "[I" 0 (fun _ => .null)), Go p e below (FinQ below s (Q4_0 Z a2 ee h0 n0) ({ frames := 0, cells := 2, slots := 0, locals := 0 } : Room).cells ({ frames := 0, cells := 2, slots := 0, locals := 0 } : Room).slots) (Tl8.setTop (mkF m 100 #[.val (.int (0 : Int32)), .val (.ref a2), .val (.ref b3), .val (.ref b7), .val (.ref a2), .val (.int ee.length.toInt32), .val (.int (Int32.ofNat kk)), sl7, sm7, sl9, sl10] [])) := by
          intro mm
          induction mm using Nat.strongRecOn with
          | _ mm ih =>
            intro kk sl9 hsl9 sl10 hsl10 sl7 sm7 hsl7 Tl8 Ll8 hl8 hmm hk Xl8 Nl8 el8 KKl8 Zl8 A_a2_l8 A_b3_l8 A_b7_l8
            show Go p e below _ (Tl8.setTop (mkF m 100 _ []))
            refine gJ (q := 102) Xl8 hx (hb hby d4_100) rfl rfl ?_
            refine gJ (q := 104) Xl8 hx (hb hby d4_102) rfl rfl ?_
            by_cases hc9 : (Int32.ofNat kk) < ee.length.toInt32
            · refine Go.step (fun t k => XS.icmpNo Xl8.here hx rfl (hb hby d4_104) rfl (tlt hc9).2.1 k) ?_
              show Go p e below _ (Tl8.setTop (mkF m 107 _ []))
              refine gB (q := 109) Xl8 hx (hb hby d4_107) rfl rfl rfl ?_
              refine gJ (q := 111) Xl8 hx (hb hby d4_109) rfl rfl ?_
              refine Go.step (ldJ Xl8 hx hZ el8 A_a2_l8 (j := (Int32.ofNat kk)) (of_nn (by omega)) (by rw [clamp_nat (by omega)]; exact j_lt hTen hk hc9) (g := (mkF m 111 _ [(.int (Int32.ofNat kk)), (.ref a2)])) rfl rfl (hb hby d4_111)) ?_
              show Go p e below _ (Tl8.setTop (mkF m 112 _ [(.long ((encF ee) (Int32.ofNat kk).toNatClampNeg))]))
              refine nameIt (fun zz : Int64 => Go p e below _ (Tl8.setTop (mkF m 112 #[.val (.int (0 : Int32)), .val (.ref a2), .val (.ref b3), .val (.ref b7), .val (.ref a2), .val (.int ee.length.toInt32), .val (.int (Int32.ofNat kk)), sl7, sm7, sl9, sl10] [(.long zz)]))) ((encF ee) (Int32.ofNat kk).toNatClampNeg) ?_
              intro v10 hv10
              show Go p e below _ (Tl8.setTop (mkF m 112 _ [(.long v10)]))
              refine Go.step (fun t k => XS.lstore Xl8.here hx rfl (hb hby d4_112) rfl (l' := #[.val (.int (0 : Int32)), .val (.ref a2), .val (.ref b3), .val (.ref b7), .val (.ref a2), .val (.int ee.length.toInt32), .val (.int (Int32.ofNat kk)), .val (.long v10), .second, sl9, sl10]) (by rcases hsl7 with ⟨rfl, rfl⟩ | ⟨w, rfl, rfl⟩ <;> rfl) k) ?_
              show Go p e below _ (Tl8.setTop (mkF m 114 _ []))
              have hkl : kk < ee.length := j_lt hTen hk hc9
              obtain ⟨ea, eb, hq, hab, hbn, hor⟩ := pick_0 hE hkl
              exact hor.elim
            · refine Go.step (fun t k => XS.icmpYes Xl8.here hx rfl (pc0 := 104) (pc' := 166) rfl (hb hby d4_104) rfl (flt hc9).2.1 (by decide) (by decide) k) ?_
              show Go p e below _ (Tl8.setTop (mkF m 166 _ []))
              obtain rfl : kk = ee.length := j_ge hTen hk hc9
              show Go p e below _ (Tl8.setTop (mkF m 166 _ []))
              refine gA (q := 167) Xl8 hx (hb hby d4_166) rfl rfl rfl ?_
              refine retGR Xl8 hx Bd.notSynchronized Bd.returns rfl rfl (hb hby d4_167) ?_ (by decide) (by decide)
              show Q4_0 Z a2 ee h0 n0 _ Tl8.heap _
              rw [el8]
              exact ⟨b7, rfl, Nl8, KKl8, sz_b7, A_b7_l8⟩
        exact LOOP100 _ 0 _ One.u _ One.u _ _ Two.u _ _ _ rfl (Nat.zero_le _) X7 Nl4 e7 KK7 Z7 A_a2_7 (A_b3_7.congr fun i hi => absurd hi (Nat.not_lt_zero _)) A_b7_7
  exact LOOP13 _ 0 _ _ Two.u _ _ _ rfl (Nat.zero_le _) X3 N0 e3 KK3 Z3 A_a2_3 (A_b3_3.congr fun i _ => congrArg Value.int (deg0 ee i)) Ex3
theorem d4_68 : decode prog_18_method_7_code 68 = .ok (.aload_n 3, 1) := by decide +kernel
theorem d4_69 : decode prog_18_method_7_code 69 = .ok (.iload 4, 2) := by decide +kernel
theorem d4_71 : decode prog_18_method_7_code 71 = .ok (.aload_n 2, 1) := by decide +kernel
theorem d4_72 : decode prog_18_method_7_code 72 = .ok (.iload 4, 2) := by decide +kernel
theorem d4_74 : decode prog_18_method_7_code 74 = .ok (.iaload, 1) := by decide +kernel
theorem d4_75 : decode prog_18_method_7_code 75 = .ok (.newarray .int, 2) := by decide +kernel
theorem d4_77 : decode prog_18_method_7_code 77 = .ok (.aastore, 1) := by decide +kernel
theorem d4_78 : decode prog_18_method_7_code 78 = .ok (.aload_n 2, 1) := by decide +kernel
theorem d4_79 : decode prog_18_method_7_code 79 = .ok (.iload 4, 2) := by decide +kernel
theorem d4_81 : decode prog_18_method_7_code 81 = .ok (.iconst 0, 1) := by decide +kernel
theorem d4_82 : decode prog_18_method_7_code 82 = .ok (.iastore, 1) := by decide +kernel
theorem d4_83 : decode prog_18_method_7_code 83 = .ok (.iinc 4 1, 3) := by decide +kernel
theorem d4_86 : decode prog_18_method_7_code 86 = .ok (.goto (-24), 3) := by decide +kernel
theorem ef_4_1 (m : MethodId) (a2 : Addr) : entryFrame m #[(.int (1 : Int32)), (.ref a2)] 11 = mkF m 0 #[.val (.int (1 : Int32)), .val (.ref a2), .unset, .unset, .unset, .unset, .unset, .unset, .unset, .unset, .unset] [] := by first | (simp [entryFrame, mkF, argsToLocals, Value.category]; done) | rfl
def Q4_1 (Z : State) (a2 : Addr) (ee : List (Nat × Nat)) (h0 : Heap) (n0 : Nat) (v : Option Value) (h : Heap) (L : List Loc) : Prop := ∃ (b7 : Addr) (b8 : Addr), v = some (.ref b7) ∧ Fr n0 L ∧ Keep h0 h [] ∧ h0.size ≤ b7 ∧ h0.size ≤ b8 ∧ Ary Z h b8 .int (nb ee 0).length (fun i => .int ((rowF (nb ee 0)) i)) ∧ RAry Z h b7 (.array .int) "[I" 1 (upA (fun _ => .null) 0 (.ref b8))
set_option maxRecDepth 65536 in
set_option maxHeartbeats 40000000 in
theorem rm4_1 (l : Launch) (Z : State) (a0 : Array Value) (hw : ∀ d ∈ tables_1, d.before a0 Z = true) (ws : List Jvm.Cond) (a2 : Addr) (ee : List (Nat × Nat)) (h0 : Heap) (n0 : Nat) (Z0 : n0 ≤ h0.size) (hTen : ee.length ≤ 10) (hE : ∀ p ∈ ee, False) (A_a2 : Ary Z h0 a2 .long ee.length (fun i => .long ((encF ee) i))) :
    MetFree l (⟨"com/example/hertzbid/hertzbid/ConflictPairs", "neighbours", "(I[J)[[I"⟩ : MethodName) (head1 (Jvm.Cond.code (⟨"com/example/hertzbid/hertzbid/ConflictPairs", "neighbours", "(I[J)[[I"⟩ : MethodName) prog_18_method_7_code 11 (some (.array (.array .int))) :: ws) ({ frames := 0, cells := 3, slots := 12, locals := 0 } : Room)) (fun a U => a = #[(.int (1 : Int32)), (.ref a2)] ∧ Z.Warmed39 U.vm ∧ U.heap = h0) (fun _ _ _ _ _ => True) (fun _ U o U' => ∃ v L, o = .returned v ∧ Q4_1 Z a2 ee h0 n0 v U'.heap L ∧ FrameEnd U o U' L ({ frames := 0, cells := 3, slots := 12, locals := 0 } : Room).cells ({ frames := 0, cells := 3, slots := 12, locals := 0 } : Room).slots) := by
  refine MetFree.of_bodySF (plainFor_of_name pn_1) hisR ?_
  intro p e s m args below meth c s₁ Bd hml0 hP hK
  obtain ⟨rfl, hZ, hh⟩ := hP
  have hx := Bd.exec
  have hby := Bd.bytes
  have hml : c.maxLocals = 11 := hml0
  have hown : s.vm.findClass "com/example/hertzbid/hertzbid/ConflictPairs" = some m.cls := findClass_of_methodNamed Bd.named
  have hnm := (name_of_methodNamed Bd.named Bd.method).1
  have X0 : Stand p l e ({ frames := 0, cells := 3, slots := 12, locals := 0 } : Room) s m #[(.int (1 : Int32)), (.ref a2)] below meth c s₁ [] 0 0 := Stand.of_body Bd
  have e0 : s₁.heap = h0 := by rw [← hh, Bd.state]; rfl
  have N0 := Fr.nil n0
  refine Go.done (Go.step (fun t k => castTop (ef_4_1 m a2) k) ?_)
  have KK0 : Keep h0 h0 [] := Keep.refl _ _
  show Go p e below _ (s₁.setTop (mkF m 0 _ []))
  refine gI (q := 1) X0 hx (hb hby d4_0) rfl rfl ?_
  obtain ⟨T3, h3, k3, X3, e3, E3, A3, Ex3, st3⟩ := newPE X0 hx hZ (hw _ (List.mem_of_getElem? (i := 16) rfl)) e0 (g := (mkF m 1 #[.val (.int (1 : Int32)), .val (.ref a2), .unset, .unset, .unset, .unset, .unset, .unset, .unset, .unset, .unset] [(.int (1 : Int32))])) rfl (hb hby d4_1) rfl (by decide) (cap := 1) (by decide) (by decide) (by decide) (by decide) (ad := "[I") rfl
  obtain ⟨b3, g3⟩ : ∃ z, z = h0.size := ⟨_, rfl⟩
  rw [← g3] at A3 Ex3 st3
  have g_b3 : n0 ≤ b3 := Nat.le_trans Z0 (Nat.le_of_eq g3.symm)
  have sz_b3 : h0.size ≤ b3 := Nat.le_trans KK0.1 (Nat.le_of_eq g3.symm)
  have ne_a2_b3 : a2 ≠ b3 := Nat.ne_of_lt (Nat.lt_of_lt_of_le A_a2.lt (Nat.le_of_eq g3.symm))
  refine Go.step st3 ?_
  have A_a2_3 := A_a2.ext E3
  have Z3 := Nat.le_trans Z0 E3.1
  have KK3 : Keep h0 h3 [] := KK0.ext E3
  have A_b3_3 : Ary Z h3 b3 .int 1 (fun i => .int ((fun _ => (0 : Int32)) i)) := Ary.mk A3 (by decide) (by decide)
  replace X3 : Stand p l e ({ frames := 0, cells := 3, slots := 12, locals := 0 } : Room) s m #[(.int (1 : Int32)), (.ref a2)] below meth c T3 _ 1 1 := X3
  show Go p e below _ (T3.setTop (mkF m 3 _ [(.ref b3)]))
  refine Go.step (fun t k => XS.astoreN X3.here hx rfl (hb hby d4_3) rfl rfl (l' := #[.val (.int (1 : Int32)), .val (.ref a2), .val (.ref b3), .unset, .unset, .unset, .unset, .unset, .unset, .unset, .unset]) rfl k) ?_
  show Go p e below _ (T3.setTop (mkF m 4 _ []))
  refine gA (q := 5) X3 hx (hb hby d4_4) rfl rfl rfl ?_
  refine Go.step (fun t k => XS.astoreN X3.here hx rfl (hb hby d4_5) rfl rfl (l' := #[.val (.int (1 : Int32)), .val (.ref a2), .val (.ref b3), .val (.ref a2), .unset, .unset, .unset, .unset, .unset, .unset, .unset]) rfl k) ?_
  show Go p e below _ (T3.setTop (mkF m 6 _ []))
  refine gA (q := 7) X3 hx (hb hby d4_6) rfl rfl rfl ?_
  refine Go.step (lenA X3 hx hZ e3 A_a2_3 (g := (mkF m 7 _ [(.ref a2)])) rfl rfl (hb hby d4_7)) ?_
  show Go p e below _ (T3.setTop (mkF m 8 _ [(.int ee.length.toInt32)]))
  refine Go.step (fun t k => XS.istore X3.here hx rfl (hb hby d4_8) rfl (l' := #[.val (.int (1 : Int32)), .val (.ref a2), .val (.ref b3), .val (.ref a2), .val (.int ee.length.toInt32), .unset, .unset, .unset, .unset, .unset, .unset]) rfl k) ?_
  show Go p e below _ (T3.setTop (mkF m 10 _ []))
  refine gC (q := 11) (v := 0) X3 hx (hb hby d4_10) rfl rfl ?_
  refine Go.step (fun t k => XS.istore X3.here hx rfl (hb hby d4_11) rfl (l' := #[.val (.int (1 : Int32)), .val (.ref a2), .val (.ref b3), .val (.ref a2), .val (.int ee.length.toInt32), .val (.int (0 : Int32)), .unset, .unset, .unset, .unset, .unset]) rfl k) ?_
  show Go p e below _ (T3.setTop (mkF m 13 _ []))
  have LOOP13 : ∀ (mm : Nat) (j : Nat) (sl6 sm6 : Slot) (hsl6 : Two sl6 sm6) (Tl4 : State) (Ll4 : List Loc) (hl4 : Heap) (hmm : ee.length - j = mm) (hj : j ≤ ee.length) (Xl4 : Stand p l e ({ frames := 0, cells := 3, slots := 12, locals := 0 } : Room) s m #[(.int (1 : Int32)), (.ref a2)] below meth c Tl4 Ll4 1 1) (Nl4 : Fr n0 Ll4) (el4 : Tl4.heap = hl4) (KKl4 : Keep h0 hl4 []) (Zl4 : n0 ≤ hl4.size) (A_a2_l4 : Ary Z hl4 a2 .long ee.length (fun i => .long ((encF ee) i))) (A_b3_l4 : Ary Z hl4 b3 .int 1 (fun i => .int ((degF ee j) i))) (E_b3_l4 : Exa Z hl4 b3 "[I"), Go p e below (FinQ below s (Q4_1 Z a2 ee h0 n0) ({ frames := 0, cells := 3, slots := 12, locals := 0 } : Room).cells ({ frames := 0, cells := 3, slots := 12, locals := 0 } : Room).slots) (Tl4.setTop (mkF m 13 #[.val (.int (1 : Int32)), .val (.ref a2), .val (.ref b3), .val (.ref a2), .val (.int ee.length.toInt32), .val (.int (Int32.ofNat j)), sl6, sm6, .unset, .unset, .unset] [])) := by
    intro mm
    induction mm using Nat.strongRecOn with
    | _ mm ih =>
      intro j sl6 sm6 hsl6 Tl4 Ll4 hl4 hmm hj Xl4 Nl4 el4 KKl4 Zl4 A_a2_l4 A_b3_l4 E_b3_l4
      show Go p e below _ (Tl4.setTop (mkF m 13 _ []))
      refine gJ (q := 15) Xl4 hx (hb hby d4_13) rfl rfl ?_
      refine gJ (q := 17) Xl4 hx (hb hby d4_15) rfl rfl ?_
      by_cases hc5 : (Int32.ofNat j) < ee.length.toInt32
      · refine Go.step (fun t k => XS.icmpNo Xl4.here hx rfl (hb hby d4_17) rfl (tlt hc5).2.1 k) ?_
        show Go p e below _ (Tl4.setTop (mkF m 20 _ []))
        refine gA (q := 21) Xl4 hx (hb hby d4_20) rfl rfl rfl ?_
        refine gJ (q := 23) Xl4 hx (hb hby d4_21) rfl rfl ?_
        refine Go.step (ldJ Xl4 hx hZ el4 A_a2_l4 (j := (Int32.ofNat j)) (of_nn (by omega)) (by rw [clamp_nat (by omega)]; exact j_lt hTen hj hc5) (g := (mkF m 23 _ [(.int (Int32.ofNat j)), (.ref a2)])) rfl rfl (hb hby d4_23)) ?_
        show Go p e below _ (Tl4.setTop (mkF m 24 _ [(.long ((encF ee) (Int32.ofNat j).toNatClampNeg))]))
        refine nameIt (fun zz : Int64 => Go p e below _ (Tl4.setTop (mkF m 24 #[.val (.int (1 : Int32)), .val (.ref a2), .val (.ref b3), .val (.ref a2), .val (.int ee.length.toInt32), .val (.int (Int32.ofNat j)), sl6, sm6, .unset, .unset, .unset] [(.long zz)]))) ((encF ee) (Int32.ofNat j).toNatClampNeg) ?_
        intro v6 hv6
        show Go p e below _ (Tl4.setTop (mkF m 24 _ [(.long v6)]))
        refine Go.step (fun t k => XS.lstore Xl4.here hx rfl (hb hby d4_24) rfl (l' := #[.val (.int (1 : Int32)), .val (.ref a2), .val (.ref b3), .val (.ref a2), .val (.int ee.length.toInt32), .val (.int (Int32.ofNat j)), .val (.long v6), .second, .unset, .unset, .unset]) (by rcases hsl6 with ⟨rfl, rfl⟩ | ⟨w, rfl, rfl⟩ <;> rfl) k) ?_
        show Go p e below _ (Tl4.setTop (mkF m 26 _ []))
        have hjl : j < ee.length := j_lt hTen hj hc5
        obtain ⟨ea, eb, hq, hab, hbn, hor⟩ := pick_1 hE hjl
        exact hor.elim
      · refine Go.step (fun t k => XS.icmpYes Xl4.here hx rfl (pc0 := 17) (pc' := 54) rfl (hb hby d4_17) rfl (flt hc5).2.1 (by decide) (by decide) k) ?_
        show Go p e below _ (Tl4.setTop (mkF m 54 _ []))
        obtain rfl : j = ee.length := j_ge hTen hj hc5
        show Go p e below _ (Tl4.setTop (mkF m 54 _ []))
        refine gI (q := 55) Xl4 hx (hb hby d4_54) rfl rfl ?_
        obtain ⟨T7, h7, k7, X7, e7, E7, A7, Ex7, Ov7, st7⟩ := newRA Xl4 hx hZ hown (C := "[I") rfl (hw _ (List.mem_of_getElem? (i := 17) rfl)) (hw _ (List.mem_of_getElem? (i := 18) rfl)) el4 (g := (mkF m 55 #[.val (.int (1 : Int32)), .val (.ref a2), .val (.ref b3), .val (.ref a2), .val (.int ee.length.toInt32), .val (.int (Int32.ofNat ee.length)), sl6, sm6, .unset, .unset, .unset] [(.int (1 : Int32))])) rfl (hb hby d4_55) rfl (by decide) (cap := 1) (by decide) (by decide) (by decide) (by decide) (ad := "[[I") rfl
        obtain ⟨b7, g7⟩ : ∃ z, z = hl4.size := ⟨_, rfl⟩
        rw [← g7] at A7 Ex7 st7
        have g_b7 : n0 ≤ b7 := Nat.le_trans Zl4 (Nat.le_of_eq g7.symm)
        have sz_b7 : h0.size ≤ b7 := Nat.le_trans KKl4.1 (Nat.le_of_eq g7.symm)
        have ne_a2_b7 : a2 ≠ b7 := Nat.ne_of_lt (Nat.lt_of_lt_of_le A_a2_l4.lt (Nat.le_of_eq g7.symm))
        have ne_b3_b7 : b3 ≠ b7 := Nat.ne_of_lt (Nat.lt_of_lt_of_le A_b3_l4.lt (Nat.le_of_eq g7.symm))
        refine Go.step st7 ?_
        have A_a2_7 := A_a2_l4.ext E7
        have A_b3_7 := A_b3_l4.ext E7
        have E_b3_7 := E_b3_l4.ext E7
        have Z7 := Nat.le_trans Zl4 E7.1
        have KK7 : Keep h0 h7 [] := KKl4.ext E7
        have A_b7_7 : RAry Z h7 b7 (.array .int) "[I" 1 (fun _ => .null) := RAry.mk A7 Ov7 (by decide) (by decide) rfl
        replace X7 : Stand p l e ({ frames := 0, cells := 3, slots := 12, locals := 0 } : Room) s m #[(.int (1 : Int32)), (.ref a2)] below meth c T7 _ 2 2 := X7
        show Go p e below _ (T7.setTop (mkF m 58 _ [(.ref b7)]))
        refine Go.step (fun t k => XS.astoreN X7.here hx rfl (hb hby d4_58) rfl rfl (l' := #[.val (.int (1 : Int32)), .val (.ref a2), .val (.ref b3), .val (.ref b7), .val (.int ee.length.toInt32), .val (.int (Int32.ofNat ee.length)), sl6, sm6, .unset, .unset, .unset]) rfl k) ?_
        show Go p e below _ (T7.setTop (mkF m 59 _ []))
        refine gC (q := 60) (v := 0) X7 hx (hb hby d4_59) rfl rfl ?_
        refine Go.step (fun t k => XS.istore X7.here hx rfl (hb hby d4_60) rfl (l' := #[.val (.int (1 : Int32)), .val (.ref a2), .val (.ref b3), .val (.ref b7), .val (.int (0 : Int32)), .val (.int (Int32.ofNat ee.length)), sl6, sm6, .unset, .unset, .unset]) rfl k) ?_
        show Go p e below _ (T7.setTop (mkF m 62 _ []))
        refine gJ (q := 64) X7 hx (hb hby d4_62) rfl rfl ?_
        refine gI (q := 65) X7 hx (hb hby d4_64) rfl rfl ?_
        refine Go.step (fun t k => XS.icmpNo X7.here hx rfl (hb hby d4_65) rfl (tlt (by decide : (0 : Int32) < (1 : Int32))).2.1 k) ?_
        show Go p e below _ (T7.setTop (mkF m 68 _ []))
        refine gA (q := 69) X7 hx (hb hby d4_68) rfl rfl rfl ?_
        refine gJ (q := 71) X7 hx (hb hby d4_69) rfl rfl ?_
        refine gA (q := 72) X7 hx (hb hby d4_71) rfl rfl rfl ?_
        refine gJ (q := 74) X7 hx (hb hby d4_72) rfl rfl ?_
        refine Go.step (ldI X7 hx hZ e7 A_b3_7 (j := (0 : Int32)) (by decide) (by decide) (g := (mkF m 74 _ [(.int (0 : Int32)), (.ref b3), (.int (0 : Int32)), (.ref b7)])) rfl rfl (hb hby d4_74)) ?_
        show Go p e below _ (T7.setTop (mkF m 75 _ [(.int ((degF ee ee.length) 0)), (.int (0 : Int32)), (.ref b7)]))
        obtain ⟨T8, h8, k8, X8, e8, E8, A8, Ex8, st8⟩ := newPE X7 hx hZ (hw _ (List.mem_of_getElem? (i := 16) rfl)) e7 (g := (mkF m 75 #[.val (.int (1 : Int32)), .val (.ref a2), .val (.ref b3), .val (.ref b7), .val (.int (0 : Int32)), .val (.int (Int32.ofNat ee.length)), sl6, sm6, .unset, .unset, .unset] [(.int ((degF ee ee.length) 0)), (.int (0 : Int32)), (.ref b7)])) rfl (hb hby d4_75) rfl ((degT ee 0 hTen).1 : ¬ ((degF ee ee.length) 0) < 0) (cap := 10) ((degT ee 0 hTen).2.1 : ((degF ee ee.length) 0).toNatClampNeg ≤ 10) (by decide) (by decide) (by decide) (ad := "[I") rfl
        obtain ⟨b8, g8⟩ : ∃ z, z = h7.size := ⟨_, rfl⟩
        rw [← g8] at A8 Ex8 st8
        have g_b8 : n0 ≤ b8 := Nat.le_trans Z7 (Nat.le_of_eq g8.symm)
        have sz_b8 : h0.size ≤ b8 := Nat.le_trans KK7.1 (Nat.le_of_eq g8.symm)
        have ne_a2_b8 : a2 ≠ b8 := Nat.ne_of_lt (Nat.lt_of_lt_of_le A_a2_7.lt (Nat.le_of_eq g8.symm))
        have ne_b3_b8 : b3 ≠ b8 := Nat.ne_of_lt (Nat.lt_of_lt_of_le A_b3_7.lt (Nat.le_of_eq g8.symm))
        have ne_b7_b8 : b7 ≠ b8 := Nat.ne_of_lt (Nat.lt_of_lt_of_le A_b7_7.lt (Nat.le_of_eq g8.symm))
        refine Go.step st8 ?_
        have A_a2_8 := A_a2_7.ext E8
        have A_b3_8 := A_b3_7.ext E8
        have E_b3_8 := E_b3_7.ext E8
        have A_b7_8 := A_b7_7.ext E8
        have Z8 := Nat.le_trans Z7 E8.1
        have KK8 : Keep h0 h8 [] := KK7.ext E8
        have A_b8_8 : Ary Z h8 b8 .int (nb ee 0).length (fun i => .int ((fun _ => (0 : Int32)) i)) := Ary.mk A8 ((degT ee 0 hTen).1 : ¬ ((degF ee ee.length) 0) < 0) (degT ee 0 hTen).2.2
        replace X8 : Stand p l e ({ frames := 0, cells := 3, slots := 12, locals := 0 } : Room) s m #[(.int (1 : Int32)), (.ref a2)] below meth c T8 _ 3 12 := X8
        show Go p e below _ (T8.setTop (mkF m 77 _ [(.ref b8), (.int (0 : Int32)), (.ref b7)]))
        obtain ⟨cl9, Ar9, in9, -⟩ := A_b7_8.hin (j := (0 : Int32)) (by decide) (by decide)
        obtain ⟨T9, h9, X9, e9, W9, st9⟩ := Jvm.RoadKit.stR X8 hx hZ e8 Ar9 in9 rfl (A_b7_8.sto (Ins.self Ex8)) (g := (mkF m 77 #[.val (.int (1 : Int32)), .val (.ref a2), .val (.ref b3), .val (.ref b7), .val (.int (0 : Int32)), .val (.int (Int32.ofNat ee.length)), sl6, sm6, .unset, .unset, .unset] [(.ref b8), (.int (0 : Int32)), (.ref b7)])) rfl rfl (hb hby d4_77)
        refine Go.step st9 ?_
        have N9 := Fr.snoc X9 Nl4 g_b7
        have A_a2_9 := A_a2_8.other W9 ne_a2_b7
        have A_b3_9 := A_b3_8.other W9 ne_b3_b7
        have E_b3_9 := E_b3_8.wr W9
        have A_b8_9 := A_b8_8.other W9 (Ne.symm ne_b7_b8)
        have E_b8_9 := Ex8.wr W9
        have Z9 := Nat.le_trans Z8 (Keep.of_wr W9).1
        have KK9 : Keep h0 h9 [] := KK8.wr W9 (Or.inr sz_b7)
        have A_b7_9 : RAry Z h9 b7 (.array .int) "[I" 1 (upA (fun _ => .null) 0 (.ref b8)) := A_b7_8.set W9 (by decide)
        show Go p e below _ (T9.setTop (mkF m 78 _ []))
        refine gA (q := 79) X9 hx (hb hby d4_78) rfl rfl rfl ?_
        refine gJ (q := 81) X9 hx (hb hby d4_79) rfl rfl ?_
        refine gC (q := 82) (v := 0) X9 hx (hb hby d4_81) rfl rfl ?_
        obtain ⟨cl10, Ar10, in10, -⟩ := A_b3_9.hin (j := (0 : Int32)) (by decide) (by decide)
        obtain ⟨T10, h10, X10, e10, W10, st10⟩ := stI X9 hx hZ e9 Ar10 in10 (g := (mkF m 82 #[.val (.int (1 : Int32)), .val (.ref a2), .val (.ref b3), .val (.ref b7), .val (.int (0 : Int32)), .val (.int (Int32.ofNat ee.length)), sl6, sm6, .unset, .unset, .unset] [(.int (0 : Int32)), (.int (0 : Int32)), (.ref b3)])) rfl rfl (hb hby d4_82)
        refine Go.step st10 ?_
        have N10 := Fr.snoc X10 N9 g_b3
        have A_a2_10 := A_a2_9.other W10 ne_a2_b3
        have E_b3_10 := E_b3_9.wr W10
        have A_b8_10 := A_b8_9.other W10 (Ne.symm ne_b3_b8)
        have E_b8_10 := E_b8_9.wr W10
        have A_b7_10 := A_b7_9.other W10 (Ne.symm ne_b3_b7)
        have Z10 := Nat.le_trans Z9 (Keep.of_wr W10).1
        have KK10 : Keep h0 h10 [] := KK9.wr W10 (Or.inr sz_b3)
        have A_b3_10 : Ary Z h10 b3 .int 1 (fun i => .int ((upA (degF ee ee.length) 0 (0 : Int32)) i)) := A_b3_9.setI W10 (by decide)
        show Go p e below _ (T10.setTop (mkF m 83 _ []))
        refine Go.step (fun t k => XS.iinc X10.here hx rfl (hb hby d4_83) rfl (l' := #[.val (.int (1 : Int32)), .val (.ref a2), .val (.ref b3), .val (.ref b7), .val (.int (1 : Int32)), .val (.int (Int32.ofNat ee.length)), sl6, sm6, .unset, .unset, .unset]) rfl k) ?_
        show Go p e below _ (T10.setTop (mkF m 86 _ []))
        refine Go.step (fun t k => XS.goto X10.here hx rfl (pc0 := 86) (pc' := 62) rfl (hb hby d4_86) (by decide) (by decide) k) ?_
        show Go p e below _ (T10.setTop (mkF m 62 _ []))
        refine gJ (q := 64) X10 hx (hb hby d4_62) rfl rfl ?_
        refine gI (q := 65) X10 hx (hb hby d4_64) rfl rfl ?_
        refine Go.step (fun t k => XS.icmpYes X10.here hx rfl (pc0 := 65) (pc' := 89) rfl (hb hby d4_65) rfl (flt (by decide : ¬ ((1 : Int32) < (1 : Int32)))).2.1 (by decide) (by decide) k) ?_
        show Go p e below _ (T10.setTop (mkF m 89 _ []))
        show Go p e below _ (T10.setTop (mkF m 89 _ []))
        refine gA (q := 90) X10 hx (hb hby d4_89) rfl rfl rfl ?_
        refine Go.step (fun t k => XS.astore X10.here hx rfl (hb hby d4_90) rfl rfl (l' := #[.val (.int (1 : Int32)), .val (.ref a2), .val (.ref b3), .val (.ref b7), .val (.ref a2), .val (.int (Int32.ofNat ee.length)), sl6, sm6, .unset, .unset, .unset]) rfl k) ?_
        show Go p e below _ (T10.setTop (mkF m 92 _ []))
        refine gB (q := 94) X10 hx (hb hby d4_92) rfl rfl rfl ?_
        refine Go.step (lenA X10 hx hZ e10 A_a2_10 (g := (mkF m 94 _ [(.ref a2)])) rfl rfl (hb hby d4_94)) ?_
        show Go p e below _ (T10.setTop (mkF m 95 _ [(.int ee.length.toInt32)]))
        refine Go.step (fun t k => XS.istore X10.here hx rfl (hb hby d4_95) rfl (l' := #[.val (.int (1 : Int32)), .val (.ref a2), .val (.ref b3), .val (.ref b7), .val (.ref a2), .val (.int ee.length.toInt32), sl6, sm6, .unset, .unset, .unset]) rfl k) ?_
        show Go p e below _ (T10.setTop (mkF m 97 _ []))
        refine gC (q := 98) (v := 0) X10 hx (hb hby d4_97) rfl rfl ?_
        refine Go.step (fun t k => XS.istore X10.here hx rfl (hb hby d4_98) rfl (l' := #[.val (.int (1 : Int32)), .val (.ref a2), .val (.ref b3), .val (.ref b7), .val (.ref a2), .val (.int ee.length.toInt32), .val (.int (0 : Int32)), .unset, .unset, .unset, .unset]) (by rcases hsl6 with ⟨rfl, rfl⟩ | ⟨w, rfl, rfl⟩ <;> rfl) k) ?_
        show Go p e below _ (T10.setTop (mkF m 100 _ []))
        have LOOP100 : ∀ (mm : Nat) (kk : Nat) (sl9 : Slot) (hsl9 : One sl9) (sl10 : Slot) (hsl10 : One sl10) (sl7 sm7 : Slot) (hsl7 : Two sl7 sm7) (Tl11 : State) (Ll11 : List Loc) (hl11 : Heap) (hmm : ee.length - kk = mm) (hk : kk ≤ ee.length) (Xl11 : Stand p l e ({ frames := 0, cells := 3, slots := 12, locals := 0 } : Room) s m #[(.int (1 : Int32)), (.ref a2)] below meth c Tl11 Ll11 3 12) (Nl11 : Fr n0 Ll11) (el11 : Tl11.heap = hl11) (KKl11 : Keep h0 hl11 []) (Zl11 : n0 ≤ hl11.size) (A_a2_l11 : Ary Z hl11 a2 .long ee.length (fun i => .long ((encF ee) i))) (A_b8_l11 : Ary Z hl11 b8 .int (nb ee 0).length (fun i => .int ((rowF (nb (ee.take kk) 0)) i))) (A_b7_l11 : RAry Z hl11 b7 (.array .int) "[I" 1 (upA (fun _ => .null) 0 (.ref b8))) (A_b3_l11 : Ary Z hl11 b3 .int 1 (fun i => .int ((degF ee kk) i))), Go p e below (FinQ below s (Q4_1 Z a2 ee h0 n0) ({ frames := 0, cells := 3, slots := 12, locals := 0 } : Room).cells ({ frames := 0, cells := 3, slots := 12, locals := 0 } : Room).slots) (Tl11.setTop (mkF m 100 #[.val (.int (1 : Int32)), .val (.ref a2), .val (.ref b3), .val (.ref b7), .val (.ref a2), .val (.int ee.length.toInt32), .val (.int (Int32.ofNat kk)), sl7, sm7, sl9, sl10] [])) := by
          intro mm
          induction mm using Nat.strongRecOn with
          | _ mm ih =>
            intro kk sl9 hsl9 sl10 hsl10 sl7 sm7 hsl7 Tl11 Ll11 hl11 hmm hk Xl11 Nl11 el11 KKl11 Zl11 A_a2_l11 A_b8_l11 A_b7_l11 A_b3_l11
            show Go p e below _ (Tl11.setTop (mkF m 100 _ []))
            refine gJ (q := 102) Xl11 hx (hb hby d4_100) rfl rfl ?_
            refine gJ (q := 104) Xl11 hx (hb hby d4_102) rfl rfl ?_
            by_cases hc12 : (Int32.ofNat kk) < ee.length.toInt32
            · refine Go.step (fun t k => XS.icmpNo Xl11.here hx rfl (hb hby d4_104) rfl (tlt hc12).2.1 k) ?_
              show Go p e below _ (Tl11.setTop (mkF m 107 _ []))
              refine gB (q := 109) Xl11 hx (hb hby d4_107) rfl rfl rfl ?_
              refine gJ (q := 111) Xl11 hx (hb hby d4_109) rfl rfl ?_
              refine Go.step (ldJ Xl11 hx hZ el11 A_a2_l11 (j := (Int32.ofNat kk)) (of_nn (by omega)) (by rw [clamp_nat (by omega)]; exact j_lt hTen hk hc12) (g := (mkF m 111 _ [(.int (Int32.ofNat kk)), (.ref a2)])) rfl rfl (hb hby d4_111)) ?_
              show Go p e below _ (Tl11.setTop (mkF m 112 _ [(.long ((encF ee) (Int32.ofNat kk).toNatClampNeg))]))
              refine nameIt (fun zz : Int64 => Go p e below _ (Tl11.setTop (mkF m 112 #[.val (.int (1 : Int32)), .val (.ref a2), .val (.ref b3), .val (.ref b7), .val (.ref a2), .val (.int ee.length.toInt32), .val (.int (Int32.ofNat kk)), sl7, sm7, sl9, sl10] [(.long zz)]))) ((encF ee) (Int32.ofNat kk).toNatClampNeg) ?_
              intro v13 hv13
              show Go p e below _ (Tl11.setTop (mkF m 112 _ [(.long v13)]))
              refine Go.step (fun t k => XS.lstore Xl11.here hx rfl (hb hby d4_112) rfl (l' := #[.val (.int (1 : Int32)), .val (.ref a2), .val (.ref b3), .val (.ref b7), .val (.ref a2), .val (.int ee.length.toInt32), .val (.int (Int32.ofNat kk)), .val (.long v13), .second, sl9, sl10]) (by rcases hsl7 with ⟨rfl, rfl⟩ | ⟨w, rfl, rfl⟩ <;> rfl) k) ?_
              show Go p e below _ (Tl11.setTop (mkF m 114 _ []))
              have hkl : kk < ee.length := j_lt hTen hk hc12
              obtain ⟨ea, eb, hq, hab, hbn, hor⟩ := pick_1 hE hkl
              exact hor.elim
            · refine Go.step (fun t k => XS.icmpYes Xl11.here hx rfl (pc0 := 104) (pc' := 166) rfl (hb hby d4_104) rfl (flt hc12).2.1 (by decide) (by decide) k) ?_
              show Go p e below _ (Tl11.setTop (mkF m 166 _ []))
              obtain rfl : kk = ee.length := j_ge hTen hk hc12
              have A_b8_l11e : Ary Z hl11 b8 .int (nb ee 0).length (fun i => .int ((rowF (nb ee 0)) i)) := by have q := A_b8_l11; rw [List.take_length] at q; exact q
              show Go p e below _ (Tl11.setTop (mkF m 166 _ []))
              refine gA (q := 167) Xl11 hx (hb hby d4_166) rfl rfl rfl ?_
              refine retGR Xl11 hx Bd.notSynchronized Bd.returns rfl rfl (hb hby d4_167) ?_ (by decide) (by decide)
              show Q4_1 Z a2 ee h0 n0 _ Tl11.heap _
              rw [el11]
              exact ⟨b7, b8, rfl, Nl11, KKl11, sz_b7, sz_b8, A_b8_l11e, A_b7_l11⟩
        exact LOOP100 _ 0 _ One.u _ One.u _ _ Two.u _ _ _ rfl (Nat.zero_le _) X10 N10 e10 KK10 Z10 A_a2_10 (A_b8_10.congr fun q _ => congrArg Value.int (row0 ee 0 q)) A_b7_10 (A_b3_10.congr fun i hi => congrArg Value.int (by rw [← deg0]; (rcases i with _ | i) <;> first | rfl | (exfalso; omega)))
  exact LOOP13 _ 0 _ _ Two.u _ _ _ rfl (Nat.zero_le _) X3 N0 e3 KK3 Z3 A_a2_3 (A_b3_3.congr fun i _ => congrArg Value.int (deg0 ee i)) Ex3
theorem d4_27 : decode prog_18_method_7_code 27 = .ok (.lload 6, 2) := by decide +kernel
theorem d4_29 : decode prog_18_method_7_code 29 = .ok (.invokestatic 70, 3) := by decide +kernel
theorem pd_2 : parseMethodDescriptor "(J)I" = some ⟨[.long], some .int⟩ := by decide +kernel
theorem d4_32 : decode prog_18_method_7_code 32 = .ok (.dup2, 1) := by decide +kernel
theorem d4_33 : decode prog_18_method_7_code 33 = .ok (.iaload, 1) := by decide +kernel
theorem d4_34 : decode prog_18_method_7_code 34 = .ok (.iconst 1, 1) := by decide +kernel
theorem d4_35 : decode prog_18_method_7_code 35 = .ok (.iadd, 1) := by decide +kernel
theorem d4_36 : decode prog_18_method_7_code 36 = .ok (.iastore, 1) := by decide +kernel
theorem d4_37 : decode prog_18_method_7_code 37 = .ok (.aload_n 2, 1) := by decide +kernel
theorem d4_38 : decode prog_18_method_7_code 38 = .ok (.lload 6, 2) := by decide +kernel
theorem d4_40 : decode prog_18_method_7_code 40 = .ok (.invokestatic 81, 3) := by decide +kernel
theorem d4_43 : decode prog_18_method_7_code 43 = .ok (.dup2, 1) := by decide +kernel
theorem d4_44 : decode prog_18_method_7_code 44 = .ok (.iaload, 1) := by decide +kernel
theorem d4_45 : decode prog_18_method_7_code 45 = .ok (.iconst 1, 1) := by decide +kernel
theorem d4_46 : decode prog_18_method_7_code 46 = .ok (.iadd, 1) := by decide +kernel
theorem d4_47 : decode prog_18_method_7_code 47 = .ok (.iastore, 1) := by decide +kernel
theorem d4_48 : decode prog_18_method_7_code 48 = .ok (.iinc 5 1, 3) := by decide +kernel
theorem d4_51 : decode prog_18_method_7_code 51 = .ok (.goto (-38), 3) := by decide +kernel
theorem d4_116 : decode prog_18_method_7_code 116 = .ok (.invokestatic 70, 3) := by decide +kernel
theorem d4_119 : decode prog_18_method_7_code 119 = .ok (.istore 9, 2) := by decide +kernel
theorem d4_121 : decode prog_18_method_7_code 121 = .ok (.lload 7, 2) := by decide +kernel
theorem d4_123 : decode prog_18_method_7_code 123 = .ok (.invokestatic 81, 3) := by decide +kernel
theorem d4_126 : decode prog_18_method_7_code 126 = .ok (.istore 10, 2) := by decide +kernel
theorem d4_128 : decode prog_18_method_7_code 128 = .ok (.aload_n 3, 1) := by decide +kernel
theorem d4_129 : decode prog_18_method_7_code 129 = .ok (.iload 9, 2) := by decide +kernel
theorem d4_131 : decode prog_18_method_7_code 131 = .ok (.aaload, 1) := by decide +kernel
theorem d4_132 : decode prog_18_method_7_code 132 = .ok (.aload_n 2, 1) := by decide +kernel
theorem d4_133 : decode prog_18_method_7_code 133 = .ok (.iload 9, 2) := by decide +kernel
theorem d4_135 : decode prog_18_method_7_code 135 = .ok (.dup2, 1) := by decide +kernel
theorem d4_136 : decode prog_18_method_7_code 136 = .ok (.iaload, 1) := by decide +kernel
theorem d4_137 : decode prog_18_method_7_code 137 = .ok (.dup_x2, 1) := by decide +kernel
theorem d4_138 : decode prog_18_method_7_code 138 = .ok (.iconst 1, 1) := by decide +kernel
theorem d4_139 : decode prog_18_method_7_code 139 = .ok (.iadd, 1) := by decide +kernel
theorem d4_140 : decode prog_18_method_7_code 140 = .ok (.iastore, 1) := by decide +kernel
theorem d4_141 : decode prog_18_method_7_code 141 = .ok (.iload 10, 2) := by decide +kernel
theorem d4_143 : decode prog_18_method_7_code 143 = .ok (.iastore, 1) := by decide +kernel
theorem d4_144 : decode prog_18_method_7_code 144 = .ok (.aload_n 3, 1) := by decide +kernel
theorem d4_145 : decode prog_18_method_7_code 145 = .ok (.iload 10, 2) := by decide +kernel
theorem d4_147 : decode prog_18_method_7_code 147 = .ok (.aaload, 1) := by decide +kernel
theorem d4_148 : decode prog_18_method_7_code 148 = .ok (.aload_n 2, 1) := by decide +kernel
theorem d4_149 : decode prog_18_method_7_code 149 = .ok (.iload 10, 2) := by decide +kernel
theorem d4_151 : decode prog_18_method_7_code 151 = .ok (.dup2, 1) := by decide +kernel
theorem d4_152 : decode prog_18_method_7_code 152 = .ok (.iaload, 1) := by decide +kernel
theorem d4_153 : decode prog_18_method_7_code 153 = .ok (.dup_x2, 1) := by decide +kernel
theorem d4_154 : decode prog_18_method_7_code 154 = .ok (.iconst 1, 1) := by decide +kernel
theorem d4_155 : decode prog_18_method_7_code 155 = .ok (.iadd, 1) := by decide +kernel
theorem d4_156 : decode prog_18_method_7_code 156 = .ok (.iastore, 1) := by decide +kernel
theorem d4_157 : decode prog_18_method_7_code 157 = .ok (.iload 9, 2) := by decide +kernel
theorem d4_159 : decode prog_18_method_7_code 159 = .ok (.iastore, 1) := by decide +kernel
theorem d4_160 : decode prog_18_method_7_code 160 = .ok (.iinc 6 1, 3) := by decide +kernel
theorem d4_163 : decode prog_18_method_7_code 163 = .ok (.goto (-63), 3) := by decide +kernel
theorem ef_4_2 (m : MethodId) (a2 : Addr) : entryFrame m #[(.int (2 : Int32)), (.ref a2)] 11 = mkF m 0 #[.val (.int (2 : Int32)), .val (.ref a2), .unset, .unset, .unset, .unset, .unset, .unset, .unset, .unset, .unset] [] := by first | (simp [entryFrame, mkF, argsToLocals, Value.category]; done) | rfl
def Q4_2 (Z : State) (a2 : Addr) (ee : List (Nat × Nat)) (h0 : Heap) (n0 : Nat) (v : Option Value) (h : Heap) (L : List Loc) : Prop := ∃ (b11 : Addr) (b12 : Addr) (b15 : Addr), v = some (.ref b11) ∧ Fr n0 L ∧ Keep h0 h [] ∧ h0.size ≤ b11 ∧ h0.size ≤ b12 ∧ h0.size ≤ b15 ∧ Ary Z h b12 .int (nb ee 0).length (fun i => .int ((rowF (nb ee 0)) i)) ∧ Ary Z h b15 .int (nb ee 1).length (fun i => .int ((rowF (nb ee 1)) i)) ∧ RAry Z h b11 (.array .int) "[I" 2 (upA (upA (fun _ => .null) 0 (.ref b12)) 1 (.ref b15))
set_option maxRecDepth 65536 in
set_option maxHeartbeats 40000000 in
theorem rm4_2 (l : Launch) (Z : State) (a0 : Array Value) (hw : ∀ d ∈ tables_1, d.before a0 Z = true) (ws : List Jvm.Cond) (a2 : Addr) (ee : List (Nat × Nat)) (h0 : Heap) (n0 : Nat) (Z0 : n0 ≤ h0.size) (hTen : ee.length ≤ 10) (hE : ∀ p ∈ ee, p = (0, 1)) (A_a2 : Ary Z h0 a2 .long ee.length (fun i => .long ((encF ee) i))) :
    MetFree l (⟨"com/example/hertzbid/hertzbid/ConflictPairs", "neighbours", "(I[J)[[I"⟩ : MethodName) (head1 (Jvm.Cond.code (⟨"com/example/hertzbid/hertzbid/ConflictPairs", "neighbours", "(I[J)[[I"⟩ : MethodName) prog_18_method_7_code 11 (some (.array (.array .int))) :: ws) ({ frames := 1, cells := 4, slots := 24, locals := 14 } : Room)) (fun a U => a = #[(.int (2 : Int32)), (.ref a2)] ∧ Z.Warmed39 U.vm ∧ U.heap = h0) (fun _ _ _ _ _ => True) (fun _ U o U' => ∃ v L, o = .returned v ∧ Q4_2 Z a2 ee h0 n0 v U'.heap L ∧ FrameEnd U o U' L ({ frames := 1, cells := 4, slots := 24, locals := 14 } : Room).cells ({ frames := 1, cells := 4, slots := 24, locals := 14 } : Room).slots) := by
  refine MetFree.of_bodySF (plainFor_of_name pn_1) hisR ?_
  intro p e s m args below meth c s₁ Bd hml0 hP hK
  obtain ⟨rfl, hZ, hh⟩ := hP
  have hx := Bd.exec
  have hby := Bd.bytes
  have hml : c.maxLocals = 11 := hml0
  have hown : s.vm.findClass "com/example/hertzbid/hertzbid/ConflictPairs" = some m.cls := findClass_of_methodNamed Bd.named
  have hnm := (name_of_methodNamed Bd.named Bd.method).1
  have X0 : Stand p l e ({ frames := 1, cells := 4, slots := 24, locals := 14 } : Room) s m #[(.int (2 : Int32)), (.ref a2)] below meth c s₁ [] 0 0 := Stand.of_body Bd
  have e0 : s₁.heap = h0 := by rw [← hh, Bd.state]; rfl
  have N0 := Fr.nil n0
  refine Go.done (Go.step (fun t k => castTop (ef_4_2 m a2) k) ?_)
  have KK0 : Keep h0 h0 [] := Keep.refl _ _
  show Go p e below _ (s₁.setTop (mkF m 0 _ []))
  refine gI (q := 1) X0 hx (hb hby d4_0) rfl rfl ?_
  obtain ⟨T3, h3, k3, X3, e3, E3, A3, Ex3, st3⟩ := newPE X0 hx hZ (hw _ (List.mem_of_getElem? (i := 16) rfl)) e0 (g := (mkF m 1 #[.val (.int (2 : Int32)), .val (.ref a2), .unset, .unset, .unset, .unset, .unset, .unset, .unset, .unset, .unset] [(.int (2 : Int32))])) rfl (hb hby d4_1) rfl (by decide) (cap := 2) (by decide) (by decide) (by decide) (by decide) (ad := "[I") rfl
  obtain ⟨b3, g3⟩ : ∃ z, z = h0.size := ⟨_, rfl⟩
  rw [← g3] at A3 Ex3 st3
  have g_b3 : n0 ≤ b3 := Nat.le_trans Z0 (Nat.le_of_eq g3.symm)
  have sz_b3 : h0.size ≤ b3 := Nat.le_trans KK0.1 (Nat.le_of_eq g3.symm)
  have ne_a2_b3 : a2 ≠ b3 := Nat.ne_of_lt (Nat.lt_of_lt_of_le A_a2.lt (Nat.le_of_eq g3.symm))
  refine Go.step st3 ?_
  have A_a2_3 := A_a2.ext E3
  have Z3 := Nat.le_trans Z0 E3.1
  have KK3 : Keep h0 h3 [] := KK0.ext E3
  have A_b3_3 : Ary Z h3 b3 .int 2 (fun i => .int ((fun _ => (0 : Int32)) i)) := Ary.mk A3 (by decide) (by decide)
  replace X3 : Stand p l e ({ frames := 1, cells := 4, slots := 24, locals := 14 } : Room) s m #[(.int (2 : Int32)), (.ref a2)] below meth c T3 _ 1 2 := X3
  show Go p e below _ (T3.setTop (mkF m 3 _ [(.ref b3)]))
  refine Go.step (fun t k => XS.astoreN X3.here hx rfl (hb hby d4_3) rfl rfl (l' := #[.val (.int (2 : Int32)), .val (.ref a2), .val (.ref b3), .unset, .unset, .unset, .unset, .unset, .unset, .unset, .unset]) rfl k) ?_
  show Go p e below _ (T3.setTop (mkF m 4 _ []))
  refine gA (q := 5) X3 hx (hb hby d4_4) rfl rfl rfl ?_
  refine Go.step (fun t k => XS.astoreN X3.here hx rfl (hb hby d4_5) rfl rfl (l' := #[.val (.int (2 : Int32)), .val (.ref a2), .val (.ref b3), .val (.ref a2), .unset, .unset, .unset, .unset, .unset, .unset, .unset]) rfl k) ?_
  show Go p e below _ (T3.setTop (mkF m 6 _ []))
  refine gA (q := 7) X3 hx (hb hby d4_6) rfl rfl rfl ?_
  refine Go.step (lenA X3 hx hZ e3 A_a2_3 (g := (mkF m 7 _ [(.ref a2)])) rfl rfl (hb hby d4_7)) ?_
  show Go p e below _ (T3.setTop (mkF m 8 _ [(.int ee.length.toInt32)]))
  refine Go.step (fun t k => XS.istore X3.here hx rfl (hb hby d4_8) rfl (l' := #[.val (.int (2 : Int32)), .val (.ref a2), .val (.ref b3), .val (.ref a2), .val (.int ee.length.toInt32), .unset, .unset, .unset, .unset, .unset, .unset]) rfl k) ?_
  show Go p e below _ (T3.setTop (mkF m 10 _ []))
  refine gC (q := 11) (v := 0) X3 hx (hb hby d4_10) rfl rfl ?_
  refine Go.step (fun t k => XS.istore X3.here hx rfl (hb hby d4_11) rfl (l' := #[.val (.int (2 : Int32)), .val (.ref a2), .val (.ref b3), .val (.ref a2), .val (.int ee.length.toInt32), .val (.int (0 : Int32)), .unset, .unset, .unset, .unset, .unset]) rfl k) ?_
  show Go p e below _ (T3.setTop (mkF m 13 _ []))
  have LOOP13 : ∀ (mm : Nat) (j : Nat) (sl6 sm6 : Slot) (hsl6 : Two sl6 sm6) (Tl4 : State) (Ll4 : List Loc) (hl4 : Heap) (hmm : ee.length - j = mm) (hj : j ≤ ee.length) (Xl4 : Stand p l e ({ frames := 1, cells := 4, slots := 24, locals := 14 } : Room) s m #[(.int (2 : Int32)), (.ref a2)] below meth c Tl4 Ll4 1 2) (Nl4 : Fr n0 Ll4) (el4 : Tl4.heap = hl4) (KKl4 : Keep h0 hl4 []) (Zl4 : n0 ≤ hl4.size) (A_a2_l4 : Ary Z hl4 a2 .long ee.length (fun i => .long ((encF ee) i))) (A_b3_l4 : Ary Z hl4 b3 .int 2 (fun i => .int ((degF ee j) i))) (E_b3_l4 : Exa Z hl4 b3 "[I"), Go p e below (FinQ below s (Q4_2 Z a2 ee h0 n0) ({ frames := 1, cells := 4, slots := 24, locals := 14 } : Room).cells ({ frames := 1, cells := 4, slots := 24, locals := 14 } : Room).slots) (Tl4.setTop (mkF m 13 #[.val (.int (2 : Int32)), .val (.ref a2), .val (.ref b3), .val (.ref a2), .val (.int ee.length.toInt32), .val (.int (Int32.ofNat j)), sl6, sm6, .unset, .unset, .unset] [])) := by
    intro mm
    induction mm using Nat.strongRecOn with
    | _ mm ih =>
      intro j sl6 sm6 hsl6 Tl4 Ll4 hl4 hmm hj Xl4 Nl4 el4 KKl4 Zl4 A_a2_l4 A_b3_l4 E_b3_l4
      show Go p e below _ (Tl4.setTop (mkF m 13 _ []))
      refine gJ (q := 15) Xl4 hx (hb hby d4_13) rfl rfl ?_
      refine gJ (q := 17) Xl4 hx (hb hby d4_15) rfl rfl ?_
      by_cases hc5 : (Int32.ofNat j) < ee.length.toInt32
      · refine Go.step (fun t k => XS.icmpNo Xl4.here hx rfl (hb hby d4_17) rfl (tlt hc5).2.1 k) ?_
        show Go p e below _ (Tl4.setTop (mkF m 20 _ []))
        refine gA (q := 21) Xl4 hx (hb hby d4_20) rfl rfl rfl ?_
        refine gJ (q := 23) Xl4 hx (hb hby d4_21) rfl rfl ?_
        refine Go.step (ldJ Xl4 hx hZ el4 A_a2_l4 (j := (Int32.ofNat j)) (of_nn (by omega)) (by rw [clamp_nat (by omega)]; exact j_lt hTen hj hc5) (g := (mkF m 23 _ [(.int (Int32.ofNat j)), (.ref a2)])) rfl rfl (hb hby d4_23)) ?_
        show Go p e below _ (Tl4.setTop (mkF m 24 _ [(.long ((encF ee) (Int32.ofNat j).toNatClampNeg))]))
        refine nameIt (fun zz : Int64 => Go p e below _ (Tl4.setTop (mkF m 24 #[.val (.int (2 : Int32)), .val (.ref a2), .val (.ref b3), .val (.ref a2), .val (.int ee.length.toInt32), .val (.int (Int32.ofNat j)), sl6, sm6, .unset, .unset, .unset] [(.long zz)]))) ((encF ee) (Int32.ofNat j).toNatClampNeg) ?_
        intro v6 hv6
        show Go p e below _ (Tl4.setTop (mkF m 24 _ [(.long v6)]))
        refine Go.step (fun t k => XS.lstore Xl4.here hx rfl (hb hby d4_24) rfl (l' := #[.val (.int (2 : Int32)), .val (.ref a2), .val (.ref b3), .val (.ref a2), .val (.int ee.length.toInt32), .val (.int (Int32.ofNat j)), .val (.long v6), .second, .unset, .unset, .unset]) (by rcases hsl6 with ⟨rfl, rfl⟩ | ⟨w, rfl, rfl⟩ <;> rfl) k) ?_
        show Go p e below _ (Tl4.setTop (mkF m 26 _ []))
        have hjl : j < ee.length := j_lt hTen hj hc5
        obtain ⟨ea, eb, hq, hab, hbn, hor⟩ := pick_2 hE hjl
        have hva : ea < 2147483648 := by omega
        have hvb : eb < 2147483648 := by omega
        rw [show v6 = enc (ea, eb) by rw [hv6, clamp_nat (by omega)]; exact congrArg enc hq]
        show Go p e below _ (Tl4.setTop (mkF m 26 _ []))
        refine gA (q := 27) Xl4 hx (hb hby d4_26) rfl rfl rfl ?_
        refine Go.step (fun t k => XS.lload Xl4.here hx rfl (hb hby d4_27) rfl k) ?_
        show Go p e below _ (Tl4.setTop (mkF m 29 _ [(.long (enc (ea, eb))), (.ref b3)]))
        obtain ⟨_, _, ⟨T7, L7, k7, n7⟩, -, X7, ⟨Lc7, hQ7, l7, y7, z7⟩, st7⟩ := Jvm.LawKit.callS Xl4 hx (y := (⟨"com/example/hertzbid/hertzbid/ConflictPairs", "first", "(J)I"⟩ : MethodName)) hown (mvT hZ (hw _ (List.mem_of_getElem? (i := 25) rfl))) (mvT hZ (hw _ (List.mem_of_getElem? (i := 26) rfl))) (mvT hZ (hw _ (List.mem_of_getElem? (i := 14) rfl))) (mvT hZ (hw _ (List.mem_of_getElem? (i := 27) rfl))) (by decide) (backOf (W := 1) (rm7 l Z a0 hw [] (enc (ea, eb)) hl4 n0 Zl4) hZ (hw _ (List.mem_of_getElem? (i := 27) rfl)) (hw _ (List.mem_of_getElem? (i := 14) rfl)) (by decide) (by decide)) (g := (mkF m 29 #[.val (.int (2 : Int32)), .val (.ref a2), .val (.ref b3), .val (.ref a2), .val (.int ee.length.toInt32), .val (.int (Int32.ofNat j)), .val (.long (enc (ea, eb))), .second, .unset, .unset, .unset] [(.long (enc (ea, eb))), (.ref b3)])) rfl (by rw [hml]; rfl) (argsL := [(.long (enc (ea, eb)))]) (rest := [(.ref b3)]) (lenOf pd_2 rfl) rfl (by show 2 * 0 + _ ≤ _; exact Nat.le_of_eq rfl) (hb hby d4_29) (fun _ _ => ⟨rfl, el4, (by decide : 1 + 0 ≤ _), (by decide : 2 + 0 ≤ _)⟩)
        dsimp only [Pt.U, Pt.locs, Pt.cells, Pt.slots] at X7 l7 y7 z7 st7 hQ7
        replace y7 : k7 = 1 := y7
        replace z7 : n7 = 2 := z7
        subst y7 z7
        obtain ⟨rfl, N7q, e7⟩ := hQ7
        have N7 : Fr n0 L7 := Eq.mpr (congrArg (Fr n0) l7) (Fr.app Nl4 N7q)
        refine Go.step st7 ?_
        rw [f7_enc hab (Nat.lt_of_lt_of_le hbn (by decide))]
        show Go p e below _ (T7.setTop (mkF m 32 _ [(.int (Int32.ofNat ea)), (.ref b3)]))
        refine Go.step (S' := T7.setTop (mkF m 33 #[.val (.int (2 : Int32)), .val (.ref a2), .val (.ref b3), .val (.ref a2), .val (.int ee.length.toInt32), .val (.int (Int32.ofNat j)), .val (.long (enc (ea, eb))), .second, .unset, .unset, .unset] [(.int (Int32.ofNat ea)), (.ref b3), (.int (Int32.ofNat ea)), (.ref b3)])) (fun t k => ?_) ?_
        · jvm_step X7.here [X7.here.top, hx, (hb hby d4_32), Value.category]
          exact k
        show Go p e below _ (T7.setTop (mkF m 33 _ [(.int (Int32.ofNat ea)), (.ref b3), (.int (Int32.ofNat ea)), (.ref b3)]))
        refine Go.step (ldI X7 hx hZ e7 A_b3_l4 (j := (Int32.ofNat ea)) (of_nn hva) (by rw [clamp_nat hva]; omega) (g := (mkF m 33 _ [(.int (Int32.ofNat ea)), (.ref b3), (.int (Int32.ofNat ea)), (.ref b3)])) rfl rfl (hb hby d4_33)) ?_
        rw [clamp_nat hva]
        show Go p e below _ (T7.setTop (mkF m 34 _ [(.int ((degF ee j) ea)), (.int (Int32.ofNat ea)), (.ref b3)]))
        refine gC (q := 35) (v := 1) X7 hx (hb hby d4_34) rfl rfl ?_
        refine Go.step (fun t k => XS.iadd X7.here hx rfl (hb hby d4_35) rfl k) ?_
        show Go p e below _ (T7.setTop (mkF m 36 _ [(.int (((degF ee j) ea) + (1 : Int32))), (.int (Int32.ofNat ea)), (.ref b3)]))
        obtain ⟨cl8, Ar8, in8, -⟩ := A_b3_l4.hin (j := (Int32.ofNat ea)) (of_nn hva) (by rw [clamp_nat hva]; omega)
        obtain ⟨T8, h8, X8, e8, W8, st8⟩ := stI X7 hx hZ e7 Ar8 in8 (g := (mkF m 36 #[.val (.int (2 : Int32)), .val (.ref a2), .val (.ref b3), .val (.ref a2), .val (.int ee.length.toInt32), .val (.int (Int32.ofNat j)), .val (.long (enc (ea, eb))), .second, .unset, .unset, .unset] [(.int (((degF ee j) ea) + (1 : Int32))), (.int (Int32.ofNat ea)), (.ref b3)])) rfl rfl (hb hby d4_36)
        refine Go.step st8 ?_
        have N8 := Fr.snoc X8 N7 g_b3
        have A_a2_8 := A_a2_l4.other W8 ne_a2_b3
        have E_b3_8 := E_b3_l4.wr W8
        have Z8 := Nat.le_trans Zl4 (Keep.of_wr W8).1
        have KK8 : Keep h0 h8 [] := KKl4.wr W8 (Or.inr sz_b3)
        have A_b3_8 : Ary Z h8 b3 .int 2 (fun i => .int ((upA (degF ee j) ea (((degF ee j) ea) + (1 : Int32))) i)) := by have q := A_b3_l4.setI W8 (by rw [clamp_nat hva]; omega); rw [clamp_nat hva] at q; exact q
        show Go p e below _ (T8.setTop (mkF m 37 _ []))
        refine gA (q := 38) X8 hx (hb hby d4_37) rfl rfl rfl ?_
        refine Go.step (fun t k => XS.lload X8.here hx rfl (hb hby d4_38) rfl k) ?_
        show Go p e below _ (T8.setTop (mkF m 40 _ [(.long (enc (ea, eb))), (.ref b3)]))
        obtain ⟨_, _, ⟨T9, L9, k9, n9⟩, -, X9, ⟨Lc9, hQ9, l9, y9, z9⟩, st9⟩ := Jvm.LawKit.callS X8 hx (y := (⟨"com/example/hertzbid/hertzbid/ConflictPairs", "second", "(J)I"⟩ : MethodName)) hown (mvT hZ (hw _ (List.mem_of_getElem? (i := 28) rfl))) (mvT hZ (hw _ (List.mem_of_getElem? (i := 29) rfl))) (mvT hZ (hw _ (List.mem_of_getElem? (i := 14) rfl))) (mvT hZ (hw _ (List.mem_of_getElem? (i := 30) rfl))) (by decide) (backOf (W := 1) (rm8 l Z a0 hw [] (enc (ea, eb)) h8 n0 Z8) hZ (hw _ (List.mem_of_getElem? (i := 30) rfl)) (hw _ (List.mem_of_getElem? (i := 14) rfl)) (by decide) (by decide)) (g := (mkF m 40 #[.val (.int (2 : Int32)), .val (.ref a2), .val (.ref b3), .val (.ref a2), .val (.int ee.length.toInt32), .val (.int (Int32.ofNat j)), .val (.long (enc (ea, eb))), .second, .unset, .unset, .unset] [(.long (enc (ea, eb))), (.ref b3)])) rfl (by rw [hml]; rfl) (argsL := [(.long (enc (ea, eb)))]) (rest := [(.ref b3)]) (lenOf pd_2 rfl) rfl (by show 2 * 0 + _ ≤ _; exact Nat.le_of_eq rfl) (hb hby d4_40) (fun _ _ => ⟨rfl, e8, (by decide : 1 + 0 ≤ _), (by decide : 2 + 0 ≤ _)⟩)
        dsimp only [Pt.U, Pt.locs, Pt.cells, Pt.slots] at X9 l9 y9 z9 st9 hQ9
        replace y9 : k9 = 1 := y9
        replace z9 : n9 = 2 := z9
        subst y9 z9
        obtain ⟨rfl, N9q, e9⟩ := hQ9
        have N9 : Fr n0 L9 := Eq.mpr (congrArg (Fr n0) l9) (Fr.app N8 N9q)
        refine Go.step st9 ?_
        rw [f8_enc hab (Nat.lt_of_lt_of_le hbn (by decide))]
        show Go p e below _ (T9.setTop (mkF m 43 _ [(.int (Int32.ofNat eb)), (.ref b3)]))
        refine Go.step (S' := T9.setTop (mkF m 44 #[.val (.int (2 : Int32)), .val (.ref a2), .val (.ref b3), .val (.ref a2), .val (.int ee.length.toInt32), .val (.int (Int32.ofNat j)), .val (.long (enc (ea, eb))), .second, .unset, .unset, .unset] [(.int (Int32.ofNat eb)), (.ref b3), (.int (Int32.ofNat eb)), (.ref b3)])) (fun t k => ?_) ?_
        · jvm_step X9.here [X9.here.top, hx, (hb hby d4_43), Value.category]
          exact k
        show Go p e below _ (T9.setTop (mkF m 44 _ [(.int (Int32.ofNat eb)), (.ref b3), (.int (Int32.ofNat eb)), (.ref b3)]))
        refine Go.step (ldI X9 hx hZ e9 A_b3_8 (j := (Int32.ofNat eb)) (of_nn hvb) (by rw [clamp_nat hvb]; omega) (g := (mkF m 44 _ [(.int (Int32.ofNat eb)), (.ref b3), (.int (Int32.ofNat eb)), (.ref b3)])) rfl rfl (hb hby d4_44)) ?_
        rw [clamp_nat hvb, upA_ne _ _ (Nat.ne_of_gt hab)]
        show Go p e below _ (T9.setTop (mkF m 45 _ [(.int ((degF ee j) eb)), (.int (Int32.ofNat eb)), (.ref b3)]))
        refine gC (q := 46) (v := 1) X9 hx (hb hby d4_45) rfl rfl ?_
        refine Go.step (fun t k => XS.iadd X9.here hx rfl (hb hby d4_46) rfl k) ?_
        show Go p e below _ (T9.setTop (mkF m 47 _ [(.int (((degF ee j) eb) + (1 : Int32))), (.int (Int32.ofNat eb)), (.ref b3)]))
        obtain ⟨cl10, Ar10, in10, -⟩ := A_b3_8.hin (j := (Int32.ofNat eb)) (of_nn hvb) (by rw [clamp_nat hvb]; omega)
        obtain ⟨T10, h10, X10, e10, W10, st10⟩ := stI X9 hx hZ e9 Ar10 in10 (g := (mkF m 47 #[.val (.int (2 : Int32)), .val (.ref a2), .val (.ref b3), .val (.ref a2), .val (.int ee.length.toInt32), .val (.int (Int32.ofNat j)), .val (.long (enc (ea, eb))), .second, .unset, .unset, .unset] [(.int (((degF ee j) eb) + (1 : Int32))), (.int (Int32.ofNat eb)), (.ref b3)])) rfl rfl (hb hby d4_47)
        refine Go.step st10 ?_
        have N10 := Fr.snoc X10 N9 g_b3
        have A_a2_10 := A_a2_8.other W10 ne_a2_b3
        have E_b3_10 := E_b3_8.wr W10
        have Z10 := Nat.le_trans Z8 (Keep.of_wr W10).1
        have KK10 : Keep h0 h10 [] := KK8.wr W10 (Or.inr sz_b3)
        have A_b3_10 : Ary Z h10 b3 .int 2 (fun i => .int ((upA (upA (degF ee j) ea (((degF ee j) ea) + (1 : Int32))) eb (((degF ee j) eb) + (1 : Int32))) i)) := by have q := A_b3_8.setI W10 (by rw [clamp_nat hvb]; omega); rw [clamp_nat hvb] at q; exact q
        show Go p e below _ (T10.setTop (mkF m 48 _ []))
        refine Go.step (fun t k => XS.iinc X10.here hx rfl (hb hby d4_48) rfl (l' := #[.val (.int (2 : Int32)), .val (.ref a2), .val (.ref b3), .val (.ref a2), .val (.int ee.length.toInt32), .val (.int ((Int32.ofNat j) + (1 : Int32))), .val (.long (enc (ea, eb))), .second, .unset, .unset, .unset]) rfl k) ?_
        show Go p e below _ (T10.setTop (mkF m 51 _ []))
        refine Go.step (fun t k => XS.goto X10.here hx rfl (pc0 := 51) (pc' := 13) rfl (hb hby d4_51) (by decide) (by decide) k) ?_
        show Go p e below _ (T10.setTop (mkF m 13 _ []))
        show Go p e below _ (T10.setTop (mkF m 13 _ []))
        rw [succ32]
        exact ih _ (by omega) (j + 1) _ _ Two.v _ _ _ rfl (by omega) X10 N10 e10 KK10 Z10 A_a2_10 (A_b3_10.congr fun i _ => congrArg Value.int (degS hjl hq (Nat.ne_of_lt hab) i)) E_b3_10
      · refine Go.step (fun t k => XS.icmpYes Xl4.here hx rfl (pc0 := 17) (pc' := 54) rfl (hb hby d4_17) rfl (flt hc5).2.1 (by decide) (by decide) k) ?_
        show Go p e below _ (Tl4.setTop (mkF m 54 _ []))
        obtain rfl : j = ee.length := j_ge hTen hj hc5
        show Go p e below _ (Tl4.setTop (mkF m 54 _ []))
        refine gI (q := 55) Xl4 hx (hb hby d4_54) rfl rfl ?_
        obtain ⟨T11, h11, k11, X11, e11, E11, A11, Ex11, Ov11, st11⟩ := newRA Xl4 hx hZ hown (C := "[I") rfl (hw _ (List.mem_of_getElem? (i := 17) rfl)) (hw _ (List.mem_of_getElem? (i := 18) rfl)) el4 (g := (mkF m 55 #[.val (.int (2 : Int32)), .val (.ref a2), .val (.ref b3), .val (.ref a2), .val (.int ee.length.toInt32), .val (.int (Int32.ofNat ee.length)), sl6, sm6, .unset, .unset, .unset] [(.int (2 : Int32))])) rfl (hb hby d4_55) rfl (by decide) (cap := 2) (by decide) (by decide) (by decide) (by decide) (ad := "[[I") rfl
        obtain ⟨b11, g11⟩ : ∃ z, z = hl4.size := ⟨_, rfl⟩
        rw [← g11] at A11 Ex11 st11
        have g_b11 : n0 ≤ b11 := Nat.le_trans Zl4 (Nat.le_of_eq g11.symm)
        have sz_b11 : h0.size ≤ b11 := Nat.le_trans KKl4.1 (Nat.le_of_eq g11.symm)
        have ne_a2_b11 : a2 ≠ b11 := Nat.ne_of_lt (Nat.lt_of_lt_of_le A_a2_l4.lt (Nat.le_of_eq g11.symm))
        have ne_b3_b11 : b3 ≠ b11 := Nat.ne_of_lt (Nat.lt_of_lt_of_le A_b3_l4.lt (Nat.le_of_eq g11.symm))
        refine Go.step st11 ?_
        have A_a2_11 := A_a2_l4.ext E11
        have A_b3_11 := A_b3_l4.ext E11
        have E_b3_11 := E_b3_l4.ext E11
        have Z11 := Nat.le_trans Zl4 E11.1
        have KK11 : Keep h0 h11 [] := KKl4.ext E11
        have A_b11_11 : RAry Z h11 b11 (.array .int) "[I" 2 (fun _ => .null) := RAry.mk A11 Ov11 (by decide) (by decide) rfl
        replace X11 : Stand p l e ({ frames := 1, cells := 4, slots := 24, locals := 14 } : Room) s m #[(.int (2 : Int32)), (.ref a2)] below meth c T11 _ 2 4 := X11
        show Go p e below _ (T11.setTop (mkF m 58 _ [(.ref b11)]))
        refine Go.step (fun t k => XS.astoreN X11.here hx rfl (hb hby d4_58) rfl rfl (l' := #[.val (.int (2 : Int32)), .val (.ref a2), .val (.ref b3), .val (.ref b11), .val (.int ee.length.toInt32), .val (.int (Int32.ofNat ee.length)), sl6, sm6, .unset, .unset, .unset]) rfl k) ?_
        show Go p e below _ (T11.setTop (mkF m 59 _ []))
        refine gC (q := 60) (v := 0) X11 hx (hb hby d4_59) rfl rfl ?_
        refine Go.step (fun t k => XS.istore X11.here hx rfl (hb hby d4_60) rfl (l' := #[.val (.int (2 : Int32)), .val (.ref a2), .val (.ref b3), .val (.ref b11), .val (.int (0 : Int32)), .val (.int (Int32.ofNat ee.length)), sl6, sm6, .unset, .unset, .unset]) rfl k) ?_
        show Go p e below _ (T11.setTop (mkF m 62 _ []))
        refine gJ (q := 64) X11 hx (hb hby d4_62) rfl rfl ?_
        refine gI (q := 65) X11 hx (hb hby d4_64) rfl rfl ?_
        refine Go.step (fun t k => XS.icmpNo X11.here hx rfl (hb hby d4_65) rfl (tlt (by decide : (0 : Int32) < (2 : Int32))).2.1 k) ?_
        show Go p e below _ (T11.setTop (mkF m 68 _ []))
        refine gA (q := 69) X11 hx (hb hby d4_68) rfl rfl rfl ?_
        refine gJ (q := 71) X11 hx (hb hby d4_69) rfl rfl ?_
        refine gA (q := 72) X11 hx (hb hby d4_71) rfl rfl rfl ?_
        refine gJ (q := 74) X11 hx (hb hby d4_72) rfl rfl ?_
        refine Go.step (ldI X11 hx hZ e11 A_b3_11 (j := (0 : Int32)) (by decide) (by decide) (g := (mkF m 74 _ [(.int (0 : Int32)), (.ref b3), (.int (0 : Int32)), (.ref b11)])) rfl rfl (hb hby d4_74)) ?_
        show Go p e below _ (T11.setTop (mkF m 75 _ [(.int ((degF ee ee.length) 0)), (.int (0 : Int32)), (.ref b11)]))
        obtain ⟨T12, h12, k12, X12, e12, E12, A12, Ex12, st12⟩ := newPE X11 hx hZ (hw _ (List.mem_of_getElem? (i := 16) rfl)) e11 (g := (mkF m 75 #[.val (.int (2 : Int32)), .val (.ref a2), .val (.ref b3), .val (.ref b11), .val (.int (0 : Int32)), .val (.int (Int32.ofNat ee.length)), sl6, sm6, .unset, .unset, .unset] [(.int ((degF ee ee.length) 0)), (.int (0 : Int32)), (.ref b11)])) rfl (hb hby d4_75) rfl ((degT ee 0 hTen).1 : ¬ ((degF ee ee.length) 0) < 0) (cap := 10) ((degT ee 0 hTen).2.1 : ((degF ee ee.length) 0).toNatClampNeg ≤ 10) (by decide) (by decide) (by decide) (ad := "[I") rfl
        obtain ⟨b12, g12⟩ : ∃ z, z = h11.size := ⟨_, rfl⟩
        rw [← g12] at A12 Ex12 st12
        have g_b12 : n0 ≤ b12 := Nat.le_trans Z11 (Nat.le_of_eq g12.symm)
        have sz_b12 : h0.size ≤ b12 := Nat.le_trans KK11.1 (Nat.le_of_eq g12.symm)
        have ne_a2_b12 : a2 ≠ b12 := Nat.ne_of_lt (Nat.lt_of_lt_of_le A_a2_11.lt (Nat.le_of_eq g12.symm))
        have ne_b3_b12 : b3 ≠ b12 := Nat.ne_of_lt (Nat.lt_of_lt_of_le A_b3_11.lt (Nat.le_of_eq g12.symm))
        have ne_b11_b12 : b11 ≠ b12 := Nat.ne_of_lt (Nat.lt_of_lt_of_le A_b11_11.lt (Nat.le_of_eq g12.symm))
        refine Go.step st12 ?_
        have A_a2_12 := A_a2_11.ext E12
        have A_b3_12 := A_b3_11.ext E12
        have E_b3_12 := E_b3_11.ext E12
        have A_b11_12 := A_b11_11.ext E12
        have Z12 := Nat.le_trans Z11 E12.1
        have KK12 : Keep h0 h12 [] := KK11.ext E12
        have A_b12_12 : Ary Z h12 b12 .int (nb ee 0).length (fun i => .int ((fun _ => (0 : Int32)) i)) := Ary.mk A12 ((degT ee 0 hTen).1 : ¬ ((degF ee ee.length) 0) < 0) (degT ee 0 hTen).2.2
        replace X12 : Stand p l e ({ frames := 1, cells := 4, slots := 24, locals := 14 } : Room) s m #[(.int (2 : Int32)), (.ref a2)] below meth c T12 _ 3 14 := X12
        show Go p e below _ (T12.setTop (mkF m 77 _ [(.ref b12), (.int (0 : Int32)), (.ref b11)]))
        obtain ⟨cl13, Ar13, in13, -⟩ := A_b11_12.hin (j := (0 : Int32)) (by decide) (by decide)
        obtain ⟨T13, h13, X13, e13, W13, st13⟩ := Jvm.RoadKit.stR X12 hx hZ e12 Ar13 in13 rfl (A_b11_12.sto (Ins.self Ex12)) (g := (mkF m 77 #[.val (.int (2 : Int32)), .val (.ref a2), .val (.ref b3), .val (.ref b11), .val (.int (0 : Int32)), .val (.int (Int32.ofNat ee.length)), sl6, sm6, .unset, .unset, .unset] [(.ref b12), (.int (0 : Int32)), (.ref b11)])) rfl rfl (hb hby d4_77)
        refine Go.step st13 ?_
        have N13 := Fr.snoc X13 Nl4 g_b11
        have A_a2_13 := A_a2_12.other W13 ne_a2_b11
        have A_b3_13 := A_b3_12.other W13 ne_b3_b11
        have E_b3_13 := E_b3_12.wr W13
        have A_b12_13 := A_b12_12.other W13 (Ne.symm ne_b11_b12)
        have E_b12_13 := Ex12.wr W13
        have Z13 := Nat.le_trans Z12 (Keep.of_wr W13).1
        have KK13 : Keep h0 h13 [] := KK12.wr W13 (Or.inr sz_b11)
        have A_b11_13 : RAry Z h13 b11 (.array .int) "[I" 2 (upA (fun _ => .null) 0 (.ref b12)) := A_b11_12.set W13 (by decide)
        show Go p e below _ (T13.setTop (mkF m 78 _ []))
        refine gA (q := 79) X13 hx (hb hby d4_78) rfl rfl rfl ?_
        refine gJ (q := 81) X13 hx (hb hby d4_79) rfl rfl ?_
        refine gC (q := 82) (v := 0) X13 hx (hb hby d4_81) rfl rfl ?_
        obtain ⟨cl14, Ar14, in14, -⟩ := A_b3_13.hin (j := (0 : Int32)) (by decide) (by decide)
        obtain ⟨T14, h14, X14, e14, W14, st14⟩ := stI X13 hx hZ e13 Ar14 in14 (g := (mkF m 82 #[.val (.int (2 : Int32)), .val (.ref a2), .val (.ref b3), .val (.ref b11), .val (.int (0 : Int32)), .val (.int (Int32.ofNat ee.length)), sl6, sm6, .unset, .unset, .unset] [(.int (0 : Int32)), (.int (0 : Int32)), (.ref b3)])) rfl rfl (hb hby d4_82)
        refine Go.step st14 ?_
        have N14 := Fr.snoc X14 N13 g_b3
        have A_a2_14 := A_a2_13.other W14 ne_a2_b3
        have E_b3_14 := E_b3_13.wr W14
        have A_b12_14 := A_b12_13.other W14 (Ne.symm ne_b3_b12)
        have E_b12_14 := E_b12_13.wr W14
        have A_b11_14 := A_b11_13.other W14 (Ne.symm ne_b3_b11)
        have Z14 := Nat.le_trans Z13 (Keep.of_wr W14).1
        have KK14 : Keep h0 h14 [] := KK13.wr W14 (Or.inr sz_b3)
        have A_b3_14 : Ary Z h14 b3 .int 2 (fun i => .int ((upA (degF ee ee.length) 0 (0 : Int32)) i)) := A_b3_13.setI W14 (by decide)
        show Go p e below _ (T14.setTop (mkF m 83 _ []))
        refine Go.step (fun t k => XS.iinc X14.here hx rfl (hb hby d4_83) rfl (l' := #[.val (.int (2 : Int32)), .val (.ref a2), .val (.ref b3), .val (.ref b11), .val (.int (1 : Int32)), .val (.int (Int32.ofNat ee.length)), sl6, sm6, .unset, .unset, .unset]) rfl k) ?_
        show Go p e below _ (T14.setTop (mkF m 86 _ []))
        refine Go.step (fun t k => XS.goto X14.here hx rfl (pc0 := 86) (pc' := 62) rfl (hb hby d4_86) (by decide) (by decide) k) ?_
        show Go p e below _ (T14.setTop (mkF m 62 _ []))
        refine gJ (q := 64) X14 hx (hb hby d4_62) rfl rfl ?_
        refine gI (q := 65) X14 hx (hb hby d4_64) rfl rfl ?_
        refine Go.step (fun t k => XS.icmpNo X14.here hx rfl (hb hby d4_65) rfl (tlt (by decide : (1 : Int32) < (2 : Int32))).2.1 k) ?_
        show Go p e below _ (T14.setTop (mkF m 68 _ []))
        refine gA (q := 69) X14 hx (hb hby d4_68) rfl rfl rfl ?_
        refine gJ (q := 71) X14 hx (hb hby d4_69) rfl rfl ?_
        refine gA (q := 72) X14 hx (hb hby d4_71) rfl rfl rfl ?_
        refine gJ (q := 74) X14 hx (hb hby d4_72) rfl rfl ?_
        refine Go.step (ldI X14 hx hZ e14 A_b3_14 (j := (1 : Int32)) (by decide) (by decide) (g := (mkF m 74 _ [(.int (1 : Int32)), (.ref b3), (.int (1 : Int32)), (.ref b11)])) rfl rfl (hb hby d4_74)) ?_
        show Go p e below _ (T14.setTop (mkF m 75 _ [(.int ((degF ee ee.length) 1)), (.int (1 : Int32)), (.ref b11)]))
        obtain ⟨T15, h15, k15, X15, e15, E15, A15, Ex15, st15⟩ := newPE X14 hx hZ (hw _ (List.mem_of_getElem? (i := 16) rfl)) e14 (g := (mkF m 75 #[.val (.int (2 : Int32)), .val (.ref a2), .val (.ref b3), .val (.ref b11), .val (.int (1 : Int32)), .val (.int (Int32.ofNat ee.length)), sl6, sm6, .unset, .unset, .unset] [(.int ((degF ee ee.length) 1)), (.int (1 : Int32)), (.ref b11)])) rfl (hb hby d4_75) rfl ((degT ee 1 hTen).1 : ¬ ((degF ee ee.length) 1) < 0) (cap := 10) ((degT ee 1 hTen).2.1 : ((degF ee ee.length) 1).toNatClampNeg ≤ 10) (by decide) (by decide) (by decide) (ad := "[I") rfl
        obtain ⟨b15, g15⟩ : ∃ z, z = h14.size := ⟨_, rfl⟩
        rw [← g15] at A15 Ex15 st15
        have g_b15 : n0 ≤ b15 := Nat.le_trans Z14 (Nat.le_of_eq g15.symm)
        have sz_b15 : h0.size ≤ b15 := Nat.le_trans KK14.1 (Nat.le_of_eq g15.symm)
        have ne_a2_b15 : a2 ≠ b15 := Nat.ne_of_lt (Nat.lt_of_lt_of_le A_a2_14.lt (Nat.le_of_eq g15.symm))
        have ne_b3_b15 : b3 ≠ b15 := Nat.ne_of_lt (Nat.lt_of_lt_of_le E_b3_14.lt (Nat.le_of_eq g15.symm))
        have ne_b12_b15 : b12 ≠ b15 := Nat.ne_of_lt (Nat.lt_of_lt_of_le A_b12_14.lt (Nat.le_of_eq g15.symm))
        have ne_b11_b15 : b11 ≠ b15 := Nat.ne_of_lt (Nat.lt_of_lt_of_le A_b11_14.lt (Nat.le_of_eq g15.symm))
        refine Go.step st15 ?_
        have A_a2_15 := A_a2_14.ext E15
        have E_b3_15 := E_b3_14.ext E15
        have A_b12_15 := A_b12_14.ext E15
        have E_b12_15 := E_b12_14.ext E15
        have A_b11_15 := A_b11_14.ext E15
        have A_b3_15 := A_b3_14.ext E15
        have Z15 := Nat.le_trans Z14 E15.1
        have KK15 : Keep h0 h15 [] := KK14.ext E15
        have A_b15_15 : Ary Z h15 b15 .int (nb ee 1).length (fun i => .int ((fun _ => (0 : Int32)) i)) := Ary.mk A15 ((degT ee 1 hTen).1 : ¬ ((degF ee ee.length) 1) < 0) (degT ee 1 hTen).2.2
        replace X15 : Stand p l e ({ frames := 1, cells := 4, slots := 24, locals := 14 } : Room) s m #[(.int (2 : Int32)), (.ref a2)] below meth c T15 _ 4 24 := X15
        show Go p e below _ (T15.setTop (mkF m 77 _ [(.ref b15), (.int (1 : Int32)), (.ref b11)]))
        obtain ⟨cl16, Ar16, in16, -⟩ := A_b11_15.hin (j := (1 : Int32)) (by decide) (by decide)
        obtain ⟨T16, h16, X16, e16, W16, st16⟩ := Jvm.RoadKit.stR X15 hx hZ e15 Ar16 in16 rfl (A_b11_15.sto (Ins.self Ex15)) (g := (mkF m 77 #[.val (.int (2 : Int32)), .val (.ref a2), .val (.ref b3), .val (.ref b11), .val (.int (1 : Int32)), .val (.int (Int32.ofNat ee.length)), sl6, sm6, .unset, .unset, .unset] [(.ref b15), (.int (1 : Int32)), (.ref b11)])) rfl rfl (hb hby d4_77)
        refine Go.step st16 ?_
        have N16 := Fr.snoc X16 N14 g_b11
        have A_a2_16 := A_a2_15.other W16 ne_a2_b11
        have E_b3_16 := E_b3_15.wr W16
        have A_b12_16 := A_b12_15.other W16 (Ne.symm ne_b11_b12)
        have E_b12_16 := E_b12_15.wr W16
        have A_b3_16 := A_b3_15.other W16 ne_b3_b11
        have A_b15_16 := A_b15_15.other W16 (Ne.symm ne_b11_b15)
        have E_b15_16 := Ex15.wr W16
        have Z16 := Nat.le_trans Z15 (Keep.of_wr W16).1
        have KK16 : Keep h0 h16 [] := KK15.wr W16 (Or.inr sz_b11)
        have A_b11_16 : RAry Z h16 b11 (.array .int) "[I" 2 (upA (upA (fun _ => .null) 0 (.ref b12)) 1 (.ref b15)) := A_b11_15.set W16 (by decide)
        show Go p e below _ (T16.setTop (mkF m 78 _ []))
        refine gA (q := 79) X16 hx (hb hby d4_78) rfl rfl rfl ?_
        refine gJ (q := 81) X16 hx (hb hby d4_79) rfl rfl ?_
        refine gC (q := 82) (v := 0) X16 hx (hb hby d4_81) rfl rfl ?_
        obtain ⟨cl17, Ar17, in17, -⟩ := A_b3_16.hin (j := (1 : Int32)) (by decide) (by decide)
        obtain ⟨T17, h17, X17, e17, W17, st17⟩ := stI X16 hx hZ e16 Ar17 in17 (g := (mkF m 82 #[.val (.int (2 : Int32)), .val (.ref a2), .val (.ref b3), .val (.ref b11), .val (.int (1 : Int32)), .val (.int (Int32.ofNat ee.length)), sl6, sm6, .unset, .unset, .unset] [(.int (0 : Int32)), (.int (1 : Int32)), (.ref b3)])) rfl rfl (hb hby d4_82)
        refine Go.step st17 ?_
        have N17 := Fr.snoc X17 N16 g_b3
        have A_a2_17 := A_a2_16.other W17 ne_a2_b3
        have E_b3_17 := E_b3_16.wr W17
        have A_b12_17 := A_b12_16.other W17 (Ne.symm ne_b3_b12)
        have E_b12_17 := E_b12_16.wr W17
        have A_b15_17 := A_b15_16.other W17 (Ne.symm ne_b3_b15)
        have E_b15_17 := E_b15_16.wr W17
        have A_b11_17 := A_b11_16.other W17 (Ne.symm ne_b3_b11)
        have Z17 := Nat.le_trans Z16 (Keep.of_wr W17).1
        have KK17 : Keep h0 h17 [] := KK16.wr W17 (Or.inr sz_b3)
        have A_b3_17 : Ary Z h17 b3 .int 2 (fun i => .int ((upA (upA (degF ee ee.length) 0 (0 : Int32)) 1 (0 : Int32)) i)) := A_b3_16.setI W17 (by decide)
        show Go p e below _ (T17.setTop (mkF m 83 _ []))
        refine Go.step (fun t k => XS.iinc X17.here hx rfl (hb hby d4_83) rfl (l' := #[.val (.int (2 : Int32)), .val (.ref a2), .val (.ref b3), .val (.ref b11), .val (.int (2 : Int32)), .val (.int (Int32.ofNat ee.length)), sl6, sm6, .unset, .unset, .unset]) rfl k) ?_
        show Go p e below _ (T17.setTop (mkF m 86 _ []))
        refine Go.step (fun t k => XS.goto X17.here hx rfl (pc0 := 86) (pc' := 62) rfl (hb hby d4_86) (by decide) (by decide) k) ?_
        show Go p e below _ (T17.setTop (mkF m 62 _ []))
        refine gJ (q := 64) X17 hx (hb hby d4_62) rfl rfl ?_
        refine gI (q := 65) X17 hx (hb hby d4_64) rfl rfl ?_
        refine Go.step (fun t k => XS.icmpYes X17.here hx rfl (pc0 := 65) (pc' := 89) rfl (hb hby d4_65) rfl (flt (by decide : ¬ ((2 : Int32) < (2 : Int32)))).2.1 (by decide) (by decide) k) ?_
        show Go p e below _ (T17.setTop (mkF m 89 _ []))
        show Go p e below _ (T17.setTop (mkF m 89 _ []))
        refine gA (q := 90) X17 hx (hb hby d4_89) rfl rfl rfl ?_
        refine Go.step (fun t k => XS.astore X17.here hx rfl (hb hby d4_90) rfl rfl (l' := #[.val (.int (2 : Int32)), .val (.ref a2), .val (.ref b3), .val (.ref b11), .val (.ref a2), .val (.int (Int32.ofNat ee.length)), sl6, sm6, .unset, .unset, .unset]) rfl k) ?_
        show Go p e below _ (T17.setTop (mkF m 92 _ []))
        refine gB (q := 94) X17 hx (hb hby d4_92) rfl rfl rfl ?_
        refine Go.step (lenA X17 hx hZ e17 A_a2_17 (g := (mkF m 94 _ [(.ref a2)])) rfl rfl (hb hby d4_94)) ?_
        show Go p e below _ (T17.setTop (mkF m 95 _ [(.int ee.length.toInt32)]))
        refine Go.step (fun t k => XS.istore X17.here hx rfl (hb hby d4_95) rfl (l' := #[.val (.int (2 : Int32)), .val (.ref a2), .val (.ref b3), .val (.ref b11), .val (.ref a2), .val (.int ee.length.toInt32), sl6, sm6, .unset, .unset, .unset]) rfl k) ?_
        show Go p e below _ (T17.setTop (mkF m 97 _ []))
        refine gC (q := 98) (v := 0) X17 hx (hb hby d4_97) rfl rfl ?_
        refine Go.step (fun t k => XS.istore X17.here hx rfl (hb hby d4_98) rfl (l' := #[.val (.int (2 : Int32)), .val (.ref a2), .val (.ref b3), .val (.ref b11), .val (.ref a2), .val (.int ee.length.toInt32), .val (.int (0 : Int32)), .unset, .unset, .unset, .unset]) (by rcases hsl6 with ⟨rfl, rfl⟩ | ⟨w, rfl, rfl⟩ <;> rfl) k) ?_
        show Go p e below _ (T17.setTop (mkF m 100 _ []))
        have LOOP100 : ∀ (mm : Nat) (kk : Nat) (sl9 : Slot) (hsl9 : One sl9) (sl10 : Slot) (hsl10 : One sl10) (sl7 sm7 : Slot) (hsl7 : Two sl7 sm7) (Tl18 : State) (Ll18 : List Loc) (hl18 : Heap) (hmm : ee.length - kk = mm) (hk : kk ≤ ee.length) (Xl18 : Stand p l e ({ frames := 1, cells := 4, slots := 24, locals := 14 } : Room) s m #[(.int (2 : Int32)), (.ref a2)] below meth c Tl18 Ll18 4 24) (Nl18 : Fr n0 Ll18) (el18 : Tl18.heap = hl18) (KKl18 : Keep h0 hl18 []) (Zl18 : n0 ≤ hl18.size) (A_a2_l18 : Ary Z hl18 a2 .long ee.length (fun i => .long ((encF ee) i))) (A_b12_l18 : Ary Z hl18 b12 .int (nb ee 0).length (fun i => .int ((rowF (nb (ee.take kk) 0)) i))) (A_b15_l18 : Ary Z hl18 b15 .int (nb ee 1).length (fun i => .int ((rowF (nb (ee.take kk) 1)) i))) (A_b11_l18 : RAry Z hl18 b11 (.array .int) "[I" 2 (upA (upA (fun _ => .null) 0 (.ref b12)) 1 (.ref b15))) (A_b3_l18 : Ary Z hl18 b3 .int 2 (fun i => .int ((degF ee kk) i))), Go p e below (FinQ below s (Q4_2 Z a2 ee h0 n0) ({ frames := 1, cells := 4, slots := 24, locals := 14 } : Room).cells ({ frames := 1, cells := 4, slots := 24, locals := 14 } : Room).slots) (Tl18.setTop (mkF m 100 #[.val (.int (2 : Int32)), .val (.ref a2), .val (.ref b3), .val (.ref b11), .val (.ref a2), .val (.int ee.length.toInt32), .val (.int (Int32.ofNat kk)), sl7, sm7, sl9, sl10] [])) := by
          intro mm
          induction mm using Nat.strongRecOn with
          | _ mm ih =>
            intro kk sl9 hsl9 sl10 hsl10 sl7 sm7 hsl7 Tl18 Ll18 hl18 hmm hk Xl18 Nl18 el18 KKl18 Zl18 A_a2_l18 A_b12_l18 A_b15_l18 A_b11_l18 A_b3_l18
            show Go p e below _ (Tl18.setTop (mkF m 100 _ []))
            refine gJ (q := 102) Xl18 hx (hb hby d4_100) rfl rfl ?_
            refine gJ (q := 104) Xl18 hx (hb hby d4_102) rfl rfl ?_
            by_cases hc19 : (Int32.ofNat kk) < ee.length.toInt32
            · refine Go.step (fun t k => XS.icmpNo Xl18.here hx rfl (hb hby d4_104) rfl (tlt hc19).2.1 k) ?_
              show Go p e below _ (Tl18.setTop (mkF m 107 _ []))
              refine gB (q := 109) Xl18 hx (hb hby d4_107) rfl rfl rfl ?_
              refine gJ (q := 111) Xl18 hx (hb hby d4_109) rfl rfl ?_
              refine Go.step (ldJ Xl18 hx hZ el18 A_a2_l18 (j := (Int32.ofNat kk)) (of_nn (by omega)) (by rw [clamp_nat (by omega)]; exact j_lt hTen hk hc19) (g := (mkF m 111 _ [(.int (Int32.ofNat kk)), (.ref a2)])) rfl rfl (hb hby d4_111)) ?_
              show Go p e below _ (Tl18.setTop (mkF m 112 _ [(.long ((encF ee) (Int32.ofNat kk).toNatClampNeg))]))
              refine nameIt (fun zz : Int64 => Go p e below _ (Tl18.setTop (mkF m 112 #[.val (.int (2 : Int32)), .val (.ref a2), .val (.ref b3), .val (.ref b11), .val (.ref a2), .val (.int ee.length.toInt32), .val (.int (Int32.ofNat kk)), sl7, sm7, sl9, sl10] [(.long zz)]))) ((encF ee) (Int32.ofNat kk).toNatClampNeg) ?_
              intro v20 hv20
              show Go p e below _ (Tl18.setTop (mkF m 112 _ [(.long v20)]))
              refine Go.step (fun t k => XS.lstore Xl18.here hx rfl (hb hby d4_112) rfl (l' := #[.val (.int (2 : Int32)), .val (.ref a2), .val (.ref b3), .val (.ref b11), .val (.ref a2), .val (.int ee.length.toInt32), .val (.int (Int32.ofNat kk)), .val (.long v20), .second, sl9, sl10]) (by rcases hsl7 with ⟨rfl, rfl⟩ | ⟨w, rfl, rfl⟩ <;> rfl) k) ?_
              show Go p e below _ (Tl18.setTop (mkF m 114 _ []))
              have hkl : kk < ee.length := j_lt hTen hk hc19
              obtain ⟨ea, eb, hq, hab, hbn, hor⟩ := pick_2 hE hkl
              have hva : ea < 2147483648 := by omega
              have hvb : eb < 2147483648 := by omega
              rw [show v20 = enc (ea, eb) by rw [hv20, clamp_nat (by omega)]; exact congrArg enc hq]
              show Go p e below _ (Tl18.setTop (mkF m 114 _ []))
              refine Go.step (fun t k => XS.lload Xl18.here hx rfl (hb hby d4_114) rfl k) ?_
              show Go p e below _ (Tl18.setTop (mkF m 116 _ [(.long (enc (ea, eb)))]))
              obtain ⟨_, _, ⟨T21, L21, k21, n21⟩, -, X21, ⟨Lc21, hQ21, l21, y21, z21⟩, st21⟩ := Jvm.LawKit.callS Xl18 hx (y := (⟨"com/example/hertzbid/hertzbid/ConflictPairs", "first", "(J)I"⟩ : MethodName)) hown (mvT hZ (hw _ (List.mem_of_getElem? (i := 25) rfl))) (mvT hZ (hw _ (List.mem_of_getElem? (i := 26) rfl))) (mvT hZ (hw _ (List.mem_of_getElem? (i := 14) rfl))) (mvT hZ (hw _ (List.mem_of_getElem? (i := 27) rfl))) (by decide) (backOf (W := 0) (rm7 l Z a0 hw [] (enc (ea, eb)) hl18 n0 Zl18) hZ (hw _ (List.mem_of_getElem? (i := 27) rfl)) (hw _ (List.mem_of_getElem? (i := 14) rfl)) (by decide) (by decide)) (g := (mkF m 116 #[.val (.int (2 : Int32)), .val (.ref a2), .val (.ref b3), .val (.ref b11), .val (.ref a2), .val (.int ee.length.toInt32), .val (.int (Int32.ofNat kk)), .val (.long (enc (ea, eb))), .second, sl9, sl10] [(.long (enc (ea, eb)))])) rfl (by rw [hml]; rfl) (argsL := [(.long (enc (ea, eb)))]) (rest := []) (lenOf pd_2 rfl) rfl (by show 2 * 0 + _ ≤ _; exact Nat.le_of_eq rfl) (hb hby d4_116) (fun _ _ => ⟨rfl, el18, (by decide : 4 + 0 ≤ _), (by decide : 24 + 0 ≤ _)⟩)
              dsimp only [Pt.U, Pt.locs, Pt.cells, Pt.slots] at X21 l21 y21 z21 st21 hQ21
              replace y21 : k21 = 4 := y21
              replace z21 : n21 = 24 := z21
              subst y21 z21
              obtain ⟨rfl, N21q, e21⟩ := hQ21
              have N21 : Fr n0 L21 := Eq.mpr (congrArg (Fr n0) l21) (Fr.app Nl18 N21q)
              refine Go.step st21 ?_
              rw [f7_enc hab (Nat.lt_of_lt_of_le hbn (by decide))]
              show Go p e below _ (T21.setTop (mkF m 119 _ [(.int (Int32.ofNat ea))]))
              refine Go.step (fun t k => XS.istore X21.here hx rfl (hb hby d4_119) rfl (l' := #[.val (.int (2 : Int32)), .val (.ref a2), .val (.ref b3), .val (.ref b11), .val (.ref a2), .val (.int ee.length.toInt32), .val (.int (Int32.ofNat kk)), .val (.long (enc (ea, eb))), .second, .val (.int (Int32.ofNat ea)), sl10]) (by rcases hsl9 with rfl | ⟨w, rfl, hw⟩ <;> first | rfl | (cases w <;> first | rfl | (simp [Value.category] at hw))) k) ?_
              show Go p e below _ (T21.setTop (mkF m 121 _ []))
              refine Go.step (fun t k => XS.lload X21.here hx rfl (hb hby d4_121) rfl k) ?_
              show Go p e below _ (T21.setTop (mkF m 123 _ [(.long (enc (ea, eb)))]))
              obtain ⟨_, _, ⟨T22, L22, k22, n22⟩, -, X22, ⟨Lc22, hQ22, l22, y22, z22⟩, st22⟩ := Jvm.LawKit.callS X21 hx (y := (⟨"com/example/hertzbid/hertzbid/ConflictPairs", "second", "(J)I"⟩ : MethodName)) hown (mvT hZ (hw _ (List.mem_of_getElem? (i := 28) rfl))) (mvT hZ (hw _ (List.mem_of_getElem? (i := 29) rfl))) (mvT hZ (hw _ (List.mem_of_getElem? (i := 14) rfl))) (mvT hZ (hw _ (List.mem_of_getElem? (i := 30) rfl))) (by decide) (backOf (W := 0) (rm8 l Z a0 hw [] (enc (ea, eb)) hl18 n0 Zl18) hZ (hw _ (List.mem_of_getElem? (i := 30) rfl)) (hw _ (List.mem_of_getElem? (i := 14) rfl)) (by decide) (by decide)) (g := (mkF m 123 #[.val (.int (2 : Int32)), .val (.ref a2), .val (.ref b3), .val (.ref b11), .val (.ref a2), .val (.int ee.length.toInt32), .val (.int (Int32.ofNat kk)), .val (.long (enc (ea, eb))), .second, .val (.int (Int32.ofNat ea)), sl10] [(.long (enc (ea, eb)))])) rfl (by rw [hml]; rfl) (argsL := [(.long (enc (ea, eb)))]) (rest := []) (lenOf pd_2 rfl) rfl (by show 2 * 0 + _ ≤ _; exact Nat.le_of_eq rfl) (hb hby d4_123) (fun _ _ => ⟨rfl, e21, (by decide : 4 + 0 ≤ _), (by decide : 24 + 0 ≤ _)⟩)
              dsimp only [Pt.U, Pt.locs, Pt.cells, Pt.slots] at X22 l22 y22 z22 st22 hQ22
              replace y22 : k22 = 4 := y22
              replace z22 : n22 = 24 := z22
              subst y22 z22
              obtain ⟨rfl, N22q, e22⟩ := hQ22
              have N22 : Fr n0 L22 := Eq.mpr (congrArg (Fr n0) l22) (Fr.app N21 N22q)
              refine Go.step st22 ?_
              rw [f8_enc hab (Nat.lt_of_lt_of_le hbn (by decide))]
              show Go p e below _ (T22.setTop (mkF m 126 _ [(.int (Int32.ofNat eb))]))
              refine Go.step (fun t k => XS.istore X22.here hx rfl (hb hby d4_126) rfl (l' := #[.val (.int (2 : Int32)), .val (.ref a2), .val (.ref b3), .val (.ref b11), .val (.ref a2), .val (.int ee.length.toInt32), .val (.int (Int32.ofNat kk)), .val (.long (enc (ea, eb))), .second, .val (.int (Int32.ofNat ea)), .val (.int (Int32.ofNat eb))]) (by rcases hsl10 with rfl | ⟨w, rfl, hw⟩ <;> first | rfl | (cases w <;> first | rfl | (simp [Value.category] at hw))) k) ?_
              show Go p e below _ (T22.setTop (mkF m 128 _ []))
              obtain ⟨rfl, rfl⟩ := hor
              show Go p e below _ (T22.setTop (mkF m 128 #[.val (.int (2 : Int32)), .val (.ref a2), .val (.ref b3), .val (.ref b11), .val (.ref a2), .val (.int ee.length.toInt32), .val (.int (Int32.ofNat kk)), .val (.long (enc (0, 1))), .second, .val (.int (0 : Int32)), .val (.int (1 : Int32))] []))
              refine gA (q := 129) X22 hx (hb hby d4_128) rfl rfl rfl ?_
              refine gJ (q := 131) X22 hx (hb hby d4_129) rfl rfl ?_
              refine Go.step (ldR X22 hx hZ e22 A_b11_l18.ary rfl (j := (0 : Int32)) (by decide) (by decide) (g := (mkF m 131 _ [(.int (0 : Int32)), (.ref b11)])) rfl rfl (hb hby d4_131)) ?_
              show Go p e below _ (T22.setTop (mkF m 132 _ [(.ref b12)]))
              refine gA (q := 133) X22 hx (hb hby d4_132) rfl rfl rfl ?_
              refine gJ (q := 135) X22 hx (hb hby d4_133) rfl rfl ?_
              refine Go.step (S' := T22.setTop (mkF m 136 #[.val (.int (2 : Int32)), .val (.ref a2), .val (.ref b3), .val (.ref b11), .val (.ref a2), .val (.int ee.length.toInt32), .val (.int (Int32.ofNat kk)), .val (.long (enc (0, 1))), .second, .val (.int (0 : Int32)), .val (.int (1 : Int32))] [(.int (0 : Int32)), (.ref b3), (.int (0 : Int32)), (.ref b3), (.ref b12)])) (fun t k => ?_) ?_
              · jvm_step X22.here [X22.here.top, hx, (hb hby d4_135), Value.category]
                exact k
              show Go p e below _ (T22.setTop (mkF m 136 _ [(.int (0 : Int32)), (.ref b3), (.int (0 : Int32)), (.ref b3), (.ref b12)]))
              refine Go.step (ldI X22 hx hZ e22 A_b3_l18 (j := (0 : Int32)) (by decide) (by decide) (g := (mkF m 136 _ [(.int (0 : Int32)), (.ref b3), (.int (0 : Int32)), (.ref b3), (.ref b12)])) rfl rfl (hb hby d4_136)) ?_
              show Go p e below _ (T22.setTop (mkF m 137 _ [(.int ((degF ee kk) 0)), (.int (0 : Int32)), (.ref b3), (.ref b12)]))
              refine Go.step (S' := T22.setTop (mkF m 138 #[.val (.int (2 : Int32)), .val (.ref a2), .val (.ref b3), .val (.ref b11), .val (.ref a2), .val (.int ee.length.toInt32), .val (.int (Int32.ofNat kk)), .val (.long (enc (0, 1))), .second, .val (.int (0 : Int32)), .val (.int (1 : Int32))] [(.int ((degF ee kk) 0)), (.int (0 : Int32)), (.ref b3), (.int ((degF ee kk) 0)), (.ref b12)])) (fun t k => ?_) ?_
              · jvm_step X22.here [X22.here.top, hx, (hb hby d4_137), Value.category]
                exact k
              show Go p e below _ (T22.setTop (mkF m 138 _ [(.int ((degF ee kk) 0)), (.int (0 : Int32)), (.ref b3), (.int ((degF ee kk) 0)), (.ref b12)]))
              refine gC (q := 139) (v := 1) X22 hx (hb hby d4_138) rfl rfl ?_
              refine Go.step (fun t k => XS.iadd X22.here hx rfl (hb hby d4_139) rfl k) ?_
              show Go p e below _ (T22.setTop (mkF m 140 _ [(.int (((degF ee kk) 0) + (1 : Int32))), (.int (0 : Int32)), (.ref b3), (.int ((degF ee kk) 0)), (.ref b12)]))
              obtain ⟨cl23, Ar23, in23, -⟩ := A_b3_l18.hin (j := (0 : Int32)) (by decide) (by decide)
              obtain ⟨T23, h23, X23, e23, W23, st23⟩ := stI X22 hx hZ e22 Ar23 in23 (g := (mkF m 140 #[.val (.int (2 : Int32)), .val (.ref a2), .val (.ref b3), .val (.ref b11), .val (.ref a2), .val (.int ee.length.toInt32), .val (.int (Int32.ofNat kk)), .val (.long (enc (0, 1))), .second, .val (.int (0 : Int32)), .val (.int (1 : Int32))] [(.int (((degF ee kk) 0) + (1 : Int32))), (.int (0 : Int32)), (.ref b3), (.int ((degF ee kk) 0)), (.ref b12)])) rfl rfl (hb hby d4_140)
              refine Go.step st23 ?_
              have N23 := Fr.snoc X23 N22 g_b3
              have A_a2_23 := A_a2_l18.other W23 ne_a2_b3
              have A_b12_23 := A_b12_l18.other W23 (Ne.symm ne_b3_b12)
              have A_b15_23 := A_b15_l18.other W23 (Ne.symm ne_b3_b15)
              have A_b11_23 := A_b11_l18.other W23 (Ne.symm ne_b3_b11)
              have Z23 := Nat.le_trans Zl18 (Keep.of_wr W23).1
              have KK23 : Keep h0 h23 [] := KKl18.wr W23 (Or.inr sz_b3)
              have A_b3_23 : Ary Z h23 b3 .int 2 (fun i => .int ((upA (degF ee kk) 0 (((degF ee kk) 0) + (1 : Int32))) i)) := A_b3_l18.setI W23 (by decide)
              show Go p e below _ (T23.setTop (mkF m 141 _ [(.int ((degF ee kk) 0)), (.ref b12)]))
              refine gJ (q := 143) X23 hx (hb hby d4_141) rfl rfl ?_
              obtain ⟨cl24, Ar24, in24, -⟩ := A_b12_23.hin (j := ((degF ee kk) 0)) (degB hTen (ltA hkl hq)).1 (degB hTen (ltA hkl hq)).2
              obtain ⟨T24, h24, X24, e24, W24, st24⟩ := stI X23 hx hZ e23 Ar24 in24 (g := (mkF m 143 #[.val (.int (2 : Int32)), .val (.ref a2), .val (.ref b3), .val (.ref b11), .val (.ref a2), .val (.int ee.length.toInt32), .val (.int (Int32.ofNat kk)), .val (.long (enc (0, 1))), .second, .val (.int (0 : Int32)), .val (.int (1 : Int32))] [(.int (1 : Int32)), (.int ((degF ee kk) 0)), (.ref b12)])) rfl rfl (hb hby d4_143)
              refine Go.step st24 ?_
              have N24 := Fr.snoc X24 N23 g_b12
              have A_a2_24 := A_a2_23.other W24 ne_a2_b12
              have A_b15_24 := A_b15_23.other W24 (Ne.symm ne_b12_b15)
              have A_b11_24 := A_b11_23.other W24 ne_b11_b12
              have A_b3_24 := A_b3_23.other W24 ne_b3_b12
              have Z24 := Nat.le_trans Z23 (Keep.of_wr W24).1
              have KK24 : Keep h0 h24 [] := KK23.wr W24 (Or.inr sz_b12)
              have A_b12_24 : Ary Z h24 b12 .int (nb ee 0).length (fun i => .int ((upA (rowF (nb (ee.take kk) 0)) ((degF ee kk) 0).toNatClampNeg (1 : Int32)) i)) := A_b12_23.setI W24 (degB hTen (ltA hkl hq)).2
              show Go p e below _ (T24.setTop (mkF m 144 _ []))
              refine gA (q := 145) X24 hx (hb hby d4_144) rfl rfl rfl ?_
              refine gJ (q := 147) X24 hx (hb hby d4_145) rfl rfl ?_
              refine Go.step (ldR X24 hx hZ e24 A_b11_24.ary rfl (j := (1 : Int32)) (by decide) (by decide) (g := (mkF m 147 _ [(.int (1 : Int32)), (.ref b11)])) rfl rfl (hb hby d4_147)) ?_
              show Go p e below _ (T24.setTop (mkF m 148 _ [(.ref b15)]))
              refine gA (q := 149) X24 hx (hb hby d4_148) rfl rfl rfl ?_
              refine gJ (q := 151) X24 hx (hb hby d4_149) rfl rfl ?_
              refine Go.step (S' := T24.setTop (mkF m 152 #[.val (.int (2 : Int32)), .val (.ref a2), .val (.ref b3), .val (.ref b11), .val (.ref a2), .val (.int ee.length.toInt32), .val (.int (Int32.ofNat kk)), .val (.long (enc (0, 1))), .second, .val (.int (0 : Int32)), .val (.int (1 : Int32))] [(.int (1 : Int32)), (.ref b3), (.int (1 : Int32)), (.ref b3), (.ref b15)])) (fun t k => ?_) ?_
              · jvm_step X24.here [X24.here.top, hx, (hb hby d4_151), Value.category]
                exact k
              show Go p e below _ (T24.setTop (mkF m 152 _ [(.int (1 : Int32)), (.ref b3), (.int (1 : Int32)), (.ref b3), (.ref b15)]))
              refine Go.step (ldI X24 hx hZ e24 A_b3_24 (j := (1 : Int32)) (by decide) (by decide) (g := (mkF m 152 _ [(.int (1 : Int32)), (.ref b3), (.int (1 : Int32)), (.ref b3), (.ref b15)])) rfl rfl (hb hby d4_152)) ?_
              show Go p e below _ (T24.setTop (mkF m 153 _ [(.int ((degF ee kk) 1)), (.int (1 : Int32)), (.ref b3), (.ref b15)]))
              refine Go.step (S' := T24.setTop (mkF m 154 #[.val (.int (2 : Int32)), .val (.ref a2), .val (.ref b3), .val (.ref b11), .val (.ref a2), .val (.int ee.length.toInt32), .val (.int (Int32.ofNat kk)), .val (.long (enc (0, 1))), .second, .val (.int (0 : Int32)), .val (.int (1 : Int32))] [(.int ((degF ee kk) 1)), (.int (1 : Int32)), (.ref b3), (.int ((degF ee kk) 1)), (.ref b15)])) (fun t k => ?_) ?_
              · jvm_step X24.here [X24.here.top, hx, (hb hby d4_153), Value.category]
                exact k
              show Go p e below _ (T24.setTop (mkF m 154 _ [(.int ((degF ee kk) 1)), (.int (1 : Int32)), (.ref b3), (.int ((degF ee kk) 1)), (.ref b15)]))
              refine gC (q := 155) (v := 1) X24 hx (hb hby d4_154) rfl rfl ?_
              refine Go.step (fun t k => XS.iadd X24.here hx rfl (hb hby d4_155) rfl k) ?_
              show Go p e below _ (T24.setTop (mkF m 156 _ [(.int (((degF ee kk) 1) + (1 : Int32))), (.int (1 : Int32)), (.ref b3), (.int ((degF ee kk) 1)), (.ref b15)]))
              obtain ⟨cl25, Ar25, in25, -⟩ := A_b3_24.hin (j := (1 : Int32)) (by decide) (by decide)
              obtain ⟨T25, h25, X25, e25, W25, st25⟩ := stI X24 hx hZ e24 Ar25 in25 (g := (mkF m 156 #[.val (.int (2 : Int32)), .val (.ref a2), .val (.ref b3), .val (.ref b11), .val (.ref a2), .val (.int ee.length.toInt32), .val (.int (Int32.ofNat kk)), .val (.long (enc (0, 1))), .second, .val (.int (0 : Int32)), .val (.int (1 : Int32))] [(.int (((degF ee kk) 1) + (1 : Int32))), (.int (1 : Int32)), (.ref b3), (.int ((degF ee kk) 1)), (.ref b15)])) rfl rfl (hb hby d4_156)
              refine Go.step st25 ?_
              have N25 := Fr.snoc X25 N24 g_b3
              have A_a2_25 := A_a2_24.other W25 ne_a2_b3
              have A_b15_25 := A_b15_24.other W25 (Ne.symm ne_b3_b15)
              have A_b11_25 := A_b11_24.other W25 (Ne.symm ne_b3_b11)
              have A_b12_25 := A_b12_24.other W25 (Ne.symm ne_b3_b12)
              have Z25 := Nat.le_trans Z24 (Keep.of_wr W25).1
              have KK25 : Keep h0 h25 [] := KK24.wr W25 (Or.inr sz_b3)
              have A_b3_25 : Ary Z h25 b3 .int 2 (fun i => .int ((upA (upA (degF ee kk) 0 (((degF ee kk) 0) + (1 : Int32))) 1 (((degF ee kk) 1) + (1 : Int32))) i)) := A_b3_24.setI W25 (by decide)
              show Go p e below _ (T25.setTop (mkF m 157 _ [(.int ((degF ee kk) 1)), (.ref b15)]))
              refine gJ (q := 159) X25 hx (hb hby d4_157) rfl rfl ?_
              obtain ⟨cl26, Ar26, in26, -⟩ := A_b15_25.hin (j := ((degF ee kk) 1)) (degB hTen (ltB hkl hq (by decide))).1 (degB hTen (ltB hkl hq (by decide))).2
              obtain ⟨T26, h26, X26, e26, W26, st26⟩ := stI X25 hx hZ e25 Ar26 in26 (g := (mkF m 159 #[.val (.int (2 : Int32)), .val (.ref a2), .val (.ref b3), .val (.ref b11), .val (.ref a2), .val (.int ee.length.toInt32), .val (.int (Int32.ofNat kk)), .val (.long (enc (0, 1))), .second, .val (.int (0 : Int32)), .val (.int (1 : Int32))] [(.int (0 : Int32)), (.int ((degF ee kk) 1)), (.ref b15)])) rfl rfl (hb hby d4_159)
              refine Go.step st26 ?_
              have N26 := Fr.snoc X26 N25 g_b15
              have A_a2_26 := A_a2_25.other W26 ne_a2_b15
              have A_b11_26 := A_b11_25.other W26 ne_b11_b15
              have A_b12_26 := A_b12_25.other W26 ne_b12_b15
              have A_b3_26 := A_b3_25.other W26 ne_b3_b15
              have Z26 := Nat.le_trans Z25 (Keep.of_wr W26).1
              have KK26 : Keep h0 h26 [] := KK25.wr W26 (Or.inr sz_b15)
              have A_b15_26 : Ary Z h26 b15 .int (nb ee 1).length (fun i => .int ((upA (rowF (nb (ee.take kk) 1)) ((degF ee kk) 1).toNatClampNeg (0 : Int32)) i)) := A_b15_25.setI W26 (degB hTen (ltB hkl hq (by decide))).2
              show Go p e below _ (T26.setTop (mkF m 160 _ []))
              refine Go.step (fun t k => XS.iinc X26.here hx rfl (hb hby d4_160) rfl (l' := #[.val (.int (2 : Int32)), .val (.ref a2), .val (.ref b3), .val (.ref b11), .val (.ref a2), .val (.int ee.length.toInt32), .val (.int ((Int32.ofNat kk) + (1 : Int32))), .val (.long (enc (0, 1))), .second, .val (.int (0 : Int32)), .val (.int (1 : Int32))]) rfl k) ?_
              show Go p e below _ (T26.setTop (mkF m 163 _ []))
              refine Go.step (fun t k => XS.goto X26.here hx rfl (pc0 := 163) (pc' := 100) rfl (hb hby d4_163) (by decide) (by decide) k) ?_
              show Go p e below _ (T26.setTop (mkF m 100 _ []))
              show Go p e below _ (T26.setTop (mkF m 100 _ []))
              rw [succ32]
              exact ih _ (by omega) (kk + 1) _ (One.val rfl) _ (One.val rfl) _ _ Two.v _ _ _ rfl (by omega) X26 N26 e26 KK26 Z26 A_a2_26 (A_b12_26.congr fun q _ => congrArg Value.int (rowA hTen hkl hq (by decide) q)) (A_b15_26.congr fun q _ => congrArg Value.int (rowB hTen hkl hq (by decide) (by decide) q)) A_b11_26 (A_b3_26.congr fun i _ => congrArg Value.int (degS hkl hq (by decide) i))
            · refine Go.step (fun t k => XS.icmpYes Xl18.here hx rfl (pc0 := 104) (pc' := 166) rfl (hb hby d4_104) rfl (flt hc19).2.1 (by decide) (by decide) k) ?_
              show Go p e below _ (Tl18.setTop (mkF m 166 _ []))
              obtain rfl : kk = ee.length := j_ge hTen hk hc19
              have A_b12_l18e : Ary Z hl18 b12 .int (nb ee 0).length (fun i => .int ((rowF (nb ee 0)) i)) := by have q := A_b12_l18; rw [List.take_length] at q; exact q
              have A_b15_l18e : Ary Z hl18 b15 .int (nb ee 1).length (fun i => .int ((rowF (nb ee 1)) i)) := by have q := A_b15_l18; rw [List.take_length] at q; exact q
              show Go p e below _ (Tl18.setTop (mkF m 166 _ []))
              refine gA (q := 167) Xl18 hx (hb hby d4_166) rfl rfl rfl ?_
              refine retGR Xl18 hx Bd.notSynchronized Bd.returns rfl rfl (hb hby d4_167) ?_ (by decide) (by decide)
              show Q4_2 Z a2 ee h0 n0 _ Tl18.heap _
              rw [el18]
              exact ⟨b11, b12, b15, rfl, Nl18, KKl18, sz_b11, sz_b12, sz_b15, A_b12_l18e, A_b15_l18e, A_b11_l18⟩
        exact LOOP100 _ 0 _ One.u _ One.u _ _ Two.u _ _ _ rfl (Nat.zero_le _) X17 N17 e17 KK17 Z17 A_a2_17 (A_b12_17.congr fun q _ => congrArg Value.int (row0 ee 0 q)) (A_b15_17.congr fun q _ => congrArg Value.int (row0 ee 1 q)) A_b11_17 (A_b3_17.congr fun i hi => congrArg Value.int (by rw [← deg0]; (rcases i with _ | _ | i) <;> first | rfl | (exfalso; omega)))
  exact LOOP13 _ 0 _ _ Two.u _ _ _ rfl (Nat.zero_le _) X3 N0 e3 KK3 Z3 A_a2_3 (A_b3_3.congr fun i _ => congrArg Value.int (deg0 ee i)) Ex3
theorem ef_4_3 (m : MethodId) (a2 : Addr) : entryFrame m #[(.int (3 : Int32)), (.ref a2)] 11 = mkF m 0 #[.val (.int (3 : Int32)), .val (.ref a2), .unset, .unset, .unset, .unset, .unset, .unset, .unset, .unset, .unset] [] := by first | (simp [entryFrame, mkF, argsToLocals, Value.category]; done) | rfl
def Q4_3 (Z : State) (a2 : Addr) (ee : List (Nat × Nat)) (h0 : Heap) (n0 : Nat) (v : Option Value) (h : Heap) (L : List Loc) : Prop := ∃ (b11 : Addr) (b12 : Addr) (b15 : Addr) (b18 : Addr), v = some (.ref b11) ∧ Fr n0 L ∧ Keep h0 h [] ∧ h0.size ≤ b11 ∧ h0.size ≤ b12 ∧ h0.size ≤ b15 ∧ h0.size ≤ b18 ∧ Ary Z h b12 .int (nb ee 0).length (fun i => .int ((rowF (nb ee 0)) i)) ∧ Ary Z h b15 .int (nb ee 1).length (fun i => .int ((rowF (nb ee 1)) i)) ∧ Ary Z h b18 .int (nb ee 2).length (fun i => .int ((rowF (nb ee 2)) i)) ∧ RAry Z h b11 (.array .int) "[I" 3 (upA (upA (upA (fun _ => .null) 0 (.ref b12)) 1 (.ref b15)) 2 (.ref b18))
set_option maxRecDepth 65536 in
set_option maxHeartbeats 40000000 in
theorem rm4_3 (l : Launch) (Z : State) (a0 : Array Value) (hw : ∀ d ∈ tables_1, d.before a0 Z = true) (ws : List Jvm.Cond) (a2 : Addr) (ee : List (Nat × Nat)) (h0 : Heap) (n0 : Nat) (Z0 : n0 ≤ h0.size) (hTen : ee.length ≤ 10) (hE : ∀ p ∈ ee, p = (0, 1) ∨ p = (0, 2) ∨ p = (1, 2)) (A_a2 : Ary Z h0 a2 .long ee.length (fun i => .long ((encF ee) i))) :
    MetFree l (⟨"com/example/hertzbid/hertzbid/ConflictPairs", "neighbours", "(I[J)[[I"⟩ : MethodName) (head1 (Jvm.Cond.code (⟨"com/example/hertzbid/hertzbid/ConflictPairs", "neighbours", "(I[J)[[I"⟩ : MethodName) prog_18_method_7_code 11 (some (.array (.array .int))) :: ws) ({ frames := 1, cells := 5, slots := 36, locals := 14 } : Room)) (fun a U => a = #[(.int (3 : Int32)), (.ref a2)] ∧ Z.Warmed39 U.vm ∧ U.heap = h0) (fun _ _ _ _ _ => True) (fun _ U o U' => ∃ v L, o = .returned v ∧ Q4_3 Z a2 ee h0 n0 v U'.heap L ∧ FrameEnd U o U' L ({ frames := 1, cells := 5, slots := 36, locals := 14 } : Room).cells ({ frames := 1, cells := 5, slots := 36, locals := 14 } : Room).slots) := by
  refine MetFree.of_bodySF (plainFor_of_name pn_1) hisR ?_
  intro p e s m args below meth c s₁ Bd hml0 hP hK
  obtain ⟨rfl, hZ, hh⟩ := hP
  have hx := Bd.exec
  have hby := Bd.bytes
  have hml : c.maxLocals = 11 := hml0
  have hown : s.vm.findClass "com/example/hertzbid/hertzbid/ConflictPairs" = some m.cls := findClass_of_methodNamed Bd.named
  have hnm := (name_of_methodNamed Bd.named Bd.method).1
  have X0 : Stand p l e ({ frames := 1, cells := 5, slots := 36, locals := 14 } : Room) s m #[(.int (3 : Int32)), (.ref a2)] below meth c s₁ [] 0 0 := Stand.of_body Bd
  have e0 : s₁.heap = h0 := by rw [← hh, Bd.state]; rfl
  have N0 := Fr.nil n0
  refine Go.done (Go.step (fun t k => castTop (ef_4_3 m a2) k) ?_)
  have KK0 : Keep h0 h0 [] := Keep.refl _ _
  show Go p e below _ (s₁.setTop (mkF m 0 _ []))
  refine gI (q := 1) X0 hx (hb hby d4_0) rfl rfl ?_
  obtain ⟨T3, h3, k3, X3, e3, E3, A3, Ex3, st3⟩ := newPE X0 hx hZ (hw _ (List.mem_of_getElem? (i := 16) rfl)) e0 (g := (mkF m 1 #[.val (.int (3 : Int32)), .val (.ref a2), .unset, .unset, .unset, .unset, .unset, .unset, .unset, .unset, .unset] [(.int (3 : Int32))])) rfl (hb hby d4_1) rfl (by decide) (cap := 3) (by decide) (by decide) (by decide) (by decide) (ad := "[I") rfl
  obtain ⟨b3, g3⟩ : ∃ z, z = h0.size := ⟨_, rfl⟩
  rw [← g3] at A3 Ex3 st3
  have g_b3 : n0 ≤ b3 := Nat.le_trans Z0 (Nat.le_of_eq g3.symm)
  have sz_b3 : h0.size ≤ b3 := Nat.le_trans KK0.1 (Nat.le_of_eq g3.symm)
  have ne_a2_b3 : a2 ≠ b3 := Nat.ne_of_lt (Nat.lt_of_lt_of_le A_a2.lt (Nat.le_of_eq g3.symm))
  refine Go.step st3 ?_
  have A_a2_3 := A_a2.ext E3
  have Z3 := Nat.le_trans Z0 E3.1
  have KK3 : Keep h0 h3 [] := KK0.ext E3
  have A_b3_3 : Ary Z h3 b3 .int 3 (fun i => .int ((fun _ => (0 : Int32)) i)) := Ary.mk A3 (by decide) (by decide)
  replace X3 : Stand p l e ({ frames := 1, cells := 5, slots := 36, locals := 14 } : Room) s m #[(.int (3 : Int32)), (.ref a2)] below meth c T3 _ 1 3 := X3
  show Go p e below _ (T3.setTop (mkF m 3 _ [(.ref b3)]))
  refine Go.step (fun t k => XS.astoreN X3.here hx rfl (hb hby d4_3) rfl rfl (l' := #[.val (.int (3 : Int32)), .val (.ref a2), .val (.ref b3), .unset, .unset, .unset, .unset, .unset, .unset, .unset, .unset]) rfl k) ?_
  show Go p e below _ (T3.setTop (mkF m 4 _ []))
  refine gA (q := 5) X3 hx (hb hby d4_4) rfl rfl rfl ?_
  refine Go.step (fun t k => XS.astoreN X3.here hx rfl (hb hby d4_5) rfl rfl (l' := #[.val (.int (3 : Int32)), .val (.ref a2), .val (.ref b3), .val (.ref a2), .unset, .unset, .unset, .unset, .unset, .unset, .unset]) rfl k) ?_
  show Go p e below _ (T3.setTop (mkF m 6 _ []))
  refine gA (q := 7) X3 hx (hb hby d4_6) rfl rfl rfl ?_
  refine Go.step (lenA X3 hx hZ e3 A_a2_3 (g := (mkF m 7 _ [(.ref a2)])) rfl rfl (hb hby d4_7)) ?_
  show Go p e below _ (T3.setTop (mkF m 8 _ [(.int ee.length.toInt32)]))
  refine Go.step (fun t k => XS.istore X3.here hx rfl (hb hby d4_8) rfl (l' := #[.val (.int (3 : Int32)), .val (.ref a2), .val (.ref b3), .val (.ref a2), .val (.int ee.length.toInt32), .unset, .unset, .unset, .unset, .unset, .unset]) rfl k) ?_
  show Go p e below _ (T3.setTop (mkF m 10 _ []))
  refine gC (q := 11) (v := 0) X3 hx (hb hby d4_10) rfl rfl ?_
  refine Go.step (fun t k => XS.istore X3.here hx rfl (hb hby d4_11) rfl (l' := #[.val (.int (3 : Int32)), .val (.ref a2), .val (.ref b3), .val (.ref a2), .val (.int ee.length.toInt32), .val (.int (0 : Int32)), .unset, .unset, .unset, .unset, .unset]) rfl k) ?_
  show Go p e below _ (T3.setTop (mkF m 13 _ []))
  have LOOP13 : ∀ (mm : Nat) (j : Nat) (sl6 sm6 : Slot) (hsl6 : Two sl6 sm6) (Tl4 : State) (Ll4 : List Loc) (hl4 : Heap) (hmm : ee.length - j = mm) (hj : j ≤ ee.length) (Xl4 : Stand p l e ({ frames := 1, cells := 5, slots := 36, locals := 14 } : Room) s m #[(.int (3 : Int32)), (.ref a2)] below meth c Tl4 Ll4 1 3) (Nl4 : Fr n0 Ll4) (el4 : Tl4.heap = hl4) (KKl4 : Keep h0 hl4 []) (Zl4 : n0 ≤ hl4.size) (A_a2_l4 : Ary Z hl4 a2 .long ee.length (fun i => .long ((encF ee) i))) (A_b3_l4 : Ary Z hl4 b3 .int 3 (fun i => .int ((degF ee j) i))) (E_b3_l4 : Exa Z hl4 b3 "[I"), Go p e below (FinQ below s (Q4_3 Z a2 ee h0 n0) ({ frames := 1, cells := 5, slots := 36, locals := 14 } : Room).cells ({ frames := 1, cells := 5, slots := 36, locals := 14 } : Room).slots) (Tl4.setTop (mkF m 13 #[.val (.int (3 : Int32)), .val (.ref a2), .val (.ref b3), .val (.ref a2), .val (.int ee.length.toInt32), .val (.int (Int32.ofNat j)), sl6, sm6, .unset, .unset, .unset] [])) := by
    intro mm
    induction mm using Nat.strongRecOn with
    | _ mm ih =>
      intro j sl6 sm6 hsl6 Tl4 Ll4 hl4 hmm hj Xl4 Nl4 el4 KKl4 Zl4 A_a2_l4 A_b3_l4 E_b3_l4
      show Go p e below _ (Tl4.setTop (mkF m 13 _ []))
      refine gJ (q := 15) Xl4 hx (hb hby d4_13) rfl rfl ?_
      refine gJ (q := 17) Xl4 hx (hb hby d4_15) rfl rfl ?_
      by_cases hc5 : (Int32.ofNat j) < ee.length.toInt32
      · refine Go.step (fun t k => XS.icmpNo Xl4.here hx rfl (hb hby d4_17) rfl (tlt hc5).2.1 k) ?_
        show Go p e below _ (Tl4.setTop (mkF m 20 _ []))
        refine gA (q := 21) Xl4 hx (hb hby d4_20) rfl rfl rfl ?_
        refine gJ (q := 23) Xl4 hx (hb hby d4_21) rfl rfl ?_
        refine Go.step (ldJ Xl4 hx hZ el4 A_a2_l4 (j := (Int32.ofNat j)) (of_nn (by omega)) (by rw [clamp_nat (by omega)]; exact j_lt hTen hj hc5) (g := (mkF m 23 _ [(.int (Int32.ofNat j)), (.ref a2)])) rfl rfl (hb hby d4_23)) ?_
        show Go p e below _ (Tl4.setTop (mkF m 24 _ [(.long ((encF ee) (Int32.ofNat j).toNatClampNeg))]))
        refine nameIt (fun zz : Int64 => Go p e below _ (Tl4.setTop (mkF m 24 #[.val (.int (3 : Int32)), .val (.ref a2), .val (.ref b3), .val (.ref a2), .val (.int ee.length.toInt32), .val (.int (Int32.ofNat j)), sl6, sm6, .unset, .unset, .unset] [(.long zz)]))) ((encF ee) (Int32.ofNat j).toNatClampNeg) ?_
        intro v6 hv6
        show Go p e below _ (Tl4.setTop (mkF m 24 _ [(.long v6)]))
        refine Go.step (fun t k => XS.lstore Xl4.here hx rfl (hb hby d4_24) rfl (l' := #[.val (.int (3 : Int32)), .val (.ref a2), .val (.ref b3), .val (.ref a2), .val (.int ee.length.toInt32), .val (.int (Int32.ofNat j)), .val (.long v6), .second, .unset, .unset, .unset]) (by rcases hsl6 with ⟨rfl, rfl⟩ | ⟨w, rfl, rfl⟩ <;> rfl) k) ?_
        show Go p e below _ (Tl4.setTop (mkF m 26 _ []))
        have hjl : j < ee.length := j_lt hTen hj hc5
        obtain ⟨ea, eb, hq, hab, hbn, hor⟩ := pick_3 hE hjl
        have hva : ea < 2147483648 := by omega
        have hvb : eb < 2147483648 := by omega
        rw [show v6 = enc (ea, eb) by rw [hv6, clamp_nat (by omega)]; exact congrArg enc hq]
        show Go p e below _ (Tl4.setTop (mkF m 26 _ []))
        refine gA (q := 27) Xl4 hx (hb hby d4_26) rfl rfl rfl ?_
        refine Go.step (fun t k => XS.lload Xl4.here hx rfl (hb hby d4_27) rfl k) ?_
        show Go p e below _ (Tl4.setTop (mkF m 29 _ [(.long (enc (ea, eb))), (.ref b3)]))
        obtain ⟨_, _, ⟨T7, L7, k7, n7⟩, -, X7, ⟨Lc7, hQ7, l7, y7, z7⟩, st7⟩ := Jvm.LawKit.callS Xl4 hx (y := (⟨"com/example/hertzbid/hertzbid/ConflictPairs", "first", "(J)I"⟩ : MethodName)) hown (mvT hZ (hw _ (List.mem_of_getElem? (i := 25) rfl))) (mvT hZ (hw _ (List.mem_of_getElem? (i := 26) rfl))) (mvT hZ (hw _ (List.mem_of_getElem? (i := 14) rfl))) (mvT hZ (hw _ (List.mem_of_getElem? (i := 27) rfl))) (by decide) (backOf (W := 1) (rm7 l Z a0 hw [] (enc (ea, eb)) hl4 n0 Zl4) hZ (hw _ (List.mem_of_getElem? (i := 27) rfl)) (hw _ (List.mem_of_getElem? (i := 14) rfl)) (by decide) (by decide)) (g := (mkF m 29 #[.val (.int (3 : Int32)), .val (.ref a2), .val (.ref b3), .val (.ref a2), .val (.int ee.length.toInt32), .val (.int (Int32.ofNat j)), .val (.long (enc (ea, eb))), .second, .unset, .unset, .unset] [(.long (enc (ea, eb))), (.ref b3)])) rfl (by rw [hml]; rfl) (argsL := [(.long (enc (ea, eb)))]) (rest := [(.ref b3)]) (lenOf pd_2 rfl) rfl (by show 2 * 0 + _ ≤ _; exact Nat.le_of_eq rfl) (hb hby d4_29) (fun _ _ => ⟨rfl, el4, (by decide : 1 + 0 ≤ _), (by decide : 3 + 0 ≤ _)⟩)
        dsimp only [Pt.U, Pt.locs, Pt.cells, Pt.slots] at X7 l7 y7 z7 st7 hQ7
        replace y7 : k7 = 1 := y7
        replace z7 : n7 = 3 := z7
        subst y7 z7
        obtain ⟨rfl, N7q, e7⟩ := hQ7
        have N7 : Fr n0 L7 := Eq.mpr (congrArg (Fr n0) l7) (Fr.app Nl4 N7q)
        refine Go.step st7 ?_
        rw [f7_enc hab (Nat.lt_of_lt_of_le hbn (by decide))]
        show Go p e below _ (T7.setTop (mkF m 32 _ [(.int (Int32.ofNat ea)), (.ref b3)]))
        refine Go.step (S' := T7.setTop (mkF m 33 #[.val (.int (3 : Int32)), .val (.ref a2), .val (.ref b3), .val (.ref a2), .val (.int ee.length.toInt32), .val (.int (Int32.ofNat j)), .val (.long (enc (ea, eb))), .second, .unset, .unset, .unset] [(.int (Int32.ofNat ea)), (.ref b3), (.int (Int32.ofNat ea)), (.ref b3)])) (fun t k => ?_) ?_
        · jvm_step X7.here [X7.here.top, hx, (hb hby d4_32), Value.category]
          exact k
        show Go p e below _ (T7.setTop (mkF m 33 _ [(.int (Int32.ofNat ea)), (.ref b3), (.int (Int32.ofNat ea)), (.ref b3)]))
        refine Go.step (ldI X7 hx hZ e7 A_b3_l4 (j := (Int32.ofNat ea)) (of_nn hva) (by rw [clamp_nat hva]; omega) (g := (mkF m 33 _ [(.int (Int32.ofNat ea)), (.ref b3), (.int (Int32.ofNat ea)), (.ref b3)])) rfl rfl (hb hby d4_33)) ?_
        rw [clamp_nat hva]
        show Go p e below _ (T7.setTop (mkF m 34 _ [(.int ((degF ee j) ea)), (.int (Int32.ofNat ea)), (.ref b3)]))
        refine gC (q := 35) (v := 1) X7 hx (hb hby d4_34) rfl rfl ?_
        refine Go.step (fun t k => XS.iadd X7.here hx rfl (hb hby d4_35) rfl k) ?_
        show Go p e below _ (T7.setTop (mkF m 36 _ [(.int (((degF ee j) ea) + (1 : Int32))), (.int (Int32.ofNat ea)), (.ref b3)]))
        obtain ⟨cl8, Ar8, in8, -⟩ := A_b3_l4.hin (j := (Int32.ofNat ea)) (of_nn hva) (by rw [clamp_nat hva]; omega)
        obtain ⟨T8, h8, X8, e8, W8, st8⟩ := stI X7 hx hZ e7 Ar8 in8 (g := (mkF m 36 #[.val (.int (3 : Int32)), .val (.ref a2), .val (.ref b3), .val (.ref a2), .val (.int ee.length.toInt32), .val (.int (Int32.ofNat j)), .val (.long (enc (ea, eb))), .second, .unset, .unset, .unset] [(.int (((degF ee j) ea) + (1 : Int32))), (.int (Int32.ofNat ea)), (.ref b3)])) rfl rfl (hb hby d4_36)
        refine Go.step st8 ?_
        have N8 := Fr.snoc X8 N7 g_b3
        have A_a2_8 := A_a2_l4.other W8 ne_a2_b3
        have E_b3_8 := E_b3_l4.wr W8
        have Z8 := Nat.le_trans Zl4 (Keep.of_wr W8).1
        have KK8 : Keep h0 h8 [] := KKl4.wr W8 (Or.inr sz_b3)
        have A_b3_8 : Ary Z h8 b3 .int 3 (fun i => .int ((upA (degF ee j) ea (((degF ee j) ea) + (1 : Int32))) i)) := by have q := A_b3_l4.setI W8 (by rw [clamp_nat hva]; omega); rw [clamp_nat hva] at q; exact q
        show Go p e below _ (T8.setTop (mkF m 37 _ []))
        refine gA (q := 38) X8 hx (hb hby d4_37) rfl rfl rfl ?_
        refine Go.step (fun t k => XS.lload X8.here hx rfl (hb hby d4_38) rfl k) ?_
        show Go p e below _ (T8.setTop (mkF m 40 _ [(.long (enc (ea, eb))), (.ref b3)]))
        obtain ⟨_, _, ⟨T9, L9, k9, n9⟩, -, X9, ⟨Lc9, hQ9, l9, y9, z9⟩, st9⟩ := Jvm.LawKit.callS X8 hx (y := (⟨"com/example/hertzbid/hertzbid/ConflictPairs", "second", "(J)I"⟩ : MethodName)) hown (mvT hZ (hw _ (List.mem_of_getElem? (i := 28) rfl))) (mvT hZ (hw _ (List.mem_of_getElem? (i := 29) rfl))) (mvT hZ (hw _ (List.mem_of_getElem? (i := 14) rfl))) (mvT hZ (hw _ (List.mem_of_getElem? (i := 30) rfl))) (by decide) (backOf (W := 1) (rm8 l Z a0 hw [] (enc (ea, eb)) h8 n0 Z8) hZ (hw _ (List.mem_of_getElem? (i := 30) rfl)) (hw _ (List.mem_of_getElem? (i := 14) rfl)) (by decide) (by decide)) (g := (mkF m 40 #[.val (.int (3 : Int32)), .val (.ref a2), .val (.ref b3), .val (.ref a2), .val (.int ee.length.toInt32), .val (.int (Int32.ofNat j)), .val (.long (enc (ea, eb))), .second, .unset, .unset, .unset] [(.long (enc (ea, eb))), (.ref b3)])) rfl (by rw [hml]; rfl) (argsL := [(.long (enc (ea, eb)))]) (rest := [(.ref b3)]) (lenOf pd_2 rfl) rfl (by show 2 * 0 + _ ≤ _; exact Nat.le_of_eq rfl) (hb hby d4_40) (fun _ _ => ⟨rfl, e8, (by decide : 1 + 0 ≤ _), (by decide : 3 + 0 ≤ _)⟩)
        dsimp only [Pt.U, Pt.locs, Pt.cells, Pt.slots] at X9 l9 y9 z9 st9 hQ9
        replace y9 : k9 = 1 := y9
        replace z9 : n9 = 3 := z9
        subst y9 z9
        obtain ⟨rfl, N9q, e9⟩ := hQ9
        have N9 : Fr n0 L9 := Eq.mpr (congrArg (Fr n0) l9) (Fr.app N8 N9q)
        refine Go.step st9 ?_
        rw [f8_enc hab (Nat.lt_of_lt_of_le hbn (by decide))]
        show Go p e below _ (T9.setTop (mkF m 43 _ [(.int (Int32.ofNat eb)), (.ref b3)]))
        refine Go.step (S' := T9.setTop (mkF m 44 #[.val (.int (3 : Int32)), .val (.ref a2), .val (.ref b3), .val (.ref a2), .val (.int ee.length.toInt32), .val (.int (Int32.ofNat j)), .val (.long (enc (ea, eb))), .second, .unset, .unset, .unset] [(.int (Int32.ofNat eb)), (.ref b3), (.int (Int32.ofNat eb)), (.ref b3)])) (fun t k => ?_) ?_
        · jvm_step X9.here [X9.here.top, hx, (hb hby d4_43), Value.category]
          exact k
        show Go p e below _ (T9.setTop (mkF m 44 _ [(.int (Int32.ofNat eb)), (.ref b3), (.int (Int32.ofNat eb)), (.ref b3)]))
        refine Go.step (ldI X9 hx hZ e9 A_b3_8 (j := (Int32.ofNat eb)) (of_nn hvb) (by rw [clamp_nat hvb]; omega) (g := (mkF m 44 _ [(.int (Int32.ofNat eb)), (.ref b3), (.int (Int32.ofNat eb)), (.ref b3)])) rfl rfl (hb hby d4_44)) ?_
        rw [clamp_nat hvb, upA_ne _ _ (Nat.ne_of_gt hab)]
        show Go p e below _ (T9.setTop (mkF m 45 _ [(.int ((degF ee j) eb)), (.int (Int32.ofNat eb)), (.ref b3)]))
        refine gC (q := 46) (v := 1) X9 hx (hb hby d4_45) rfl rfl ?_
        refine Go.step (fun t k => XS.iadd X9.here hx rfl (hb hby d4_46) rfl k) ?_
        show Go p e below _ (T9.setTop (mkF m 47 _ [(.int (((degF ee j) eb) + (1 : Int32))), (.int (Int32.ofNat eb)), (.ref b3)]))
        obtain ⟨cl10, Ar10, in10, -⟩ := A_b3_8.hin (j := (Int32.ofNat eb)) (of_nn hvb) (by rw [clamp_nat hvb]; omega)
        obtain ⟨T10, h10, X10, e10, W10, st10⟩ := stI X9 hx hZ e9 Ar10 in10 (g := (mkF m 47 #[.val (.int (3 : Int32)), .val (.ref a2), .val (.ref b3), .val (.ref a2), .val (.int ee.length.toInt32), .val (.int (Int32.ofNat j)), .val (.long (enc (ea, eb))), .second, .unset, .unset, .unset] [(.int (((degF ee j) eb) + (1 : Int32))), (.int (Int32.ofNat eb)), (.ref b3)])) rfl rfl (hb hby d4_47)
        refine Go.step st10 ?_
        have N10 := Fr.snoc X10 N9 g_b3
        have A_a2_10 := A_a2_8.other W10 ne_a2_b3
        have E_b3_10 := E_b3_8.wr W10
        have Z10 := Nat.le_trans Z8 (Keep.of_wr W10).1
        have KK10 : Keep h0 h10 [] := KK8.wr W10 (Or.inr sz_b3)
        have A_b3_10 : Ary Z h10 b3 .int 3 (fun i => .int ((upA (upA (degF ee j) ea (((degF ee j) ea) + (1 : Int32))) eb (((degF ee j) eb) + (1 : Int32))) i)) := by have q := A_b3_8.setI W10 (by rw [clamp_nat hvb]; omega); rw [clamp_nat hvb] at q; exact q
        show Go p e below _ (T10.setTop (mkF m 48 _ []))
        refine Go.step (fun t k => XS.iinc X10.here hx rfl (hb hby d4_48) rfl (l' := #[.val (.int (3 : Int32)), .val (.ref a2), .val (.ref b3), .val (.ref a2), .val (.int ee.length.toInt32), .val (.int ((Int32.ofNat j) + (1 : Int32))), .val (.long (enc (ea, eb))), .second, .unset, .unset, .unset]) rfl k) ?_
        show Go p e below _ (T10.setTop (mkF m 51 _ []))
        refine Go.step (fun t k => XS.goto X10.here hx rfl (pc0 := 51) (pc' := 13) rfl (hb hby d4_51) (by decide) (by decide) k) ?_
        show Go p e below _ (T10.setTop (mkF m 13 _ []))
        show Go p e below _ (T10.setTop (mkF m 13 _ []))
        rw [succ32]
        exact ih _ (by omega) (j + 1) _ _ Two.v _ _ _ rfl (by omega) X10 N10 e10 KK10 Z10 A_a2_10 (A_b3_10.congr fun i _ => congrArg Value.int (degS hjl hq (Nat.ne_of_lt hab) i)) E_b3_10
      · refine Go.step (fun t k => XS.icmpYes Xl4.here hx rfl (pc0 := 17) (pc' := 54) rfl (hb hby d4_17) rfl (flt hc5).2.1 (by decide) (by decide) k) ?_
        show Go p e below _ (Tl4.setTop (mkF m 54 _ []))
        obtain rfl : j = ee.length := j_ge hTen hj hc5
        show Go p e below _ (Tl4.setTop (mkF m 54 _ []))
        refine gI (q := 55) Xl4 hx (hb hby d4_54) rfl rfl ?_
        obtain ⟨T11, h11, k11, X11, e11, E11, A11, Ex11, Ov11, st11⟩ := newRA Xl4 hx hZ hown (C := "[I") rfl (hw _ (List.mem_of_getElem? (i := 17) rfl)) (hw _ (List.mem_of_getElem? (i := 18) rfl)) el4 (g := (mkF m 55 #[.val (.int (3 : Int32)), .val (.ref a2), .val (.ref b3), .val (.ref a2), .val (.int ee.length.toInt32), .val (.int (Int32.ofNat ee.length)), sl6, sm6, .unset, .unset, .unset] [(.int (3 : Int32))])) rfl (hb hby d4_55) rfl (by decide) (cap := 3) (by decide) (by decide) (by decide) (by decide) (ad := "[[I") rfl
        obtain ⟨b11, g11⟩ : ∃ z, z = hl4.size := ⟨_, rfl⟩
        rw [← g11] at A11 Ex11 st11
        have g_b11 : n0 ≤ b11 := Nat.le_trans Zl4 (Nat.le_of_eq g11.symm)
        have sz_b11 : h0.size ≤ b11 := Nat.le_trans KKl4.1 (Nat.le_of_eq g11.symm)
        have ne_a2_b11 : a2 ≠ b11 := Nat.ne_of_lt (Nat.lt_of_lt_of_le A_a2_l4.lt (Nat.le_of_eq g11.symm))
        have ne_b3_b11 : b3 ≠ b11 := Nat.ne_of_lt (Nat.lt_of_lt_of_le A_b3_l4.lt (Nat.le_of_eq g11.symm))
        refine Go.step st11 ?_
        have A_a2_11 := A_a2_l4.ext E11
        have A_b3_11 := A_b3_l4.ext E11
        have E_b3_11 := E_b3_l4.ext E11
        have Z11 := Nat.le_trans Zl4 E11.1
        have KK11 : Keep h0 h11 [] := KKl4.ext E11
        have A_b11_11 : RAry Z h11 b11 (.array .int) "[I" 3 (fun _ => .null) := RAry.mk A11 Ov11 (by decide) (by decide) rfl
        replace X11 : Stand p l e ({ frames := 1, cells := 5, slots := 36, locals := 14 } : Room) s m #[(.int (3 : Int32)), (.ref a2)] below meth c T11 _ 2 6 := X11
        show Go p e below _ (T11.setTop (mkF m 58 _ [(.ref b11)]))
        refine Go.step (fun t k => XS.astoreN X11.here hx rfl (hb hby d4_58) rfl rfl (l' := #[.val (.int (3 : Int32)), .val (.ref a2), .val (.ref b3), .val (.ref b11), .val (.int ee.length.toInt32), .val (.int (Int32.ofNat ee.length)), sl6, sm6, .unset, .unset, .unset]) rfl k) ?_
        show Go p e below _ (T11.setTop (mkF m 59 _ []))
        refine gC (q := 60) (v := 0) X11 hx (hb hby d4_59) rfl rfl ?_
        refine Go.step (fun t k => XS.istore X11.here hx rfl (hb hby d4_60) rfl (l' := #[.val (.int (3 : Int32)), .val (.ref a2), .val (.ref b3), .val (.ref b11), .val (.int (0 : Int32)), .val (.int (Int32.ofNat ee.length)), sl6, sm6, .unset, .unset, .unset]) rfl k) ?_
        show Go p e below _ (T11.setTop (mkF m 62 _ []))
        refine gJ (q := 64) X11 hx (hb hby d4_62) rfl rfl ?_
        refine gI (q := 65) X11 hx (hb hby d4_64) rfl rfl ?_
        refine Go.step (fun t k => XS.icmpNo X11.here hx rfl (hb hby d4_65) rfl (tlt (by decide : (0 : Int32) < (3 : Int32))).2.1 k) ?_
        show Go p e below _ (T11.setTop (mkF m 68 _ []))
        refine gA (q := 69) X11 hx (hb hby d4_68) rfl rfl rfl ?_
        refine gJ (q := 71) X11 hx (hb hby d4_69) rfl rfl ?_
        refine gA (q := 72) X11 hx (hb hby d4_71) rfl rfl rfl ?_
        refine gJ (q := 74) X11 hx (hb hby d4_72) rfl rfl ?_
        refine Go.step (ldI X11 hx hZ e11 A_b3_11 (j := (0 : Int32)) (by decide) (by decide) (g := (mkF m 74 _ [(.int (0 : Int32)), (.ref b3), (.int (0 : Int32)), (.ref b11)])) rfl rfl (hb hby d4_74)) ?_
        show Go p e below _ (T11.setTop (mkF m 75 _ [(.int ((degF ee ee.length) 0)), (.int (0 : Int32)), (.ref b11)]))
        obtain ⟨T12, h12, k12, X12, e12, E12, A12, Ex12, st12⟩ := newPE X11 hx hZ (hw _ (List.mem_of_getElem? (i := 16) rfl)) e11 (g := (mkF m 75 #[.val (.int (3 : Int32)), .val (.ref a2), .val (.ref b3), .val (.ref b11), .val (.int (0 : Int32)), .val (.int (Int32.ofNat ee.length)), sl6, sm6, .unset, .unset, .unset] [(.int ((degF ee ee.length) 0)), (.int (0 : Int32)), (.ref b11)])) rfl (hb hby d4_75) rfl ((degT ee 0 hTen).1 : ¬ ((degF ee ee.length) 0) < 0) (cap := 10) ((degT ee 0 hTen).2.1 : ((degF ee ee.length) 0).toNatClampNeg ≤ 10) (by decide) (by decide) (by decide) (ad := "[I") rfl
        obtain ⟨b12, g12⟩ : ∃ z, z = h11.size := ⟨_, rfl⟩
        rw [← g12] at A12 Ex12 st12
        have g_b12 : n0 ≤ b12 := Nat.le_trans Z11 (Nat.le_of_eq g12.symm)
        have sz_b12 : h0.size ≤ b12 := Nat.le_trans KK11.1 (Nat.le_of_eq g12.symm)
        have ne_a2_b12 : a2 ≠ b12 := Nat.ne_of_lt (Nat.lt_of_lt_of_le A_a2_11.lt (Nat.le_of_eq g12.symm))
        have ne_b3_b12 : b3 ≠ b12 := Nat.ne_of_lt (Nat.lt_of_lt_of_le A_b3_11.lt (Nat.le_of_eq g12.symm))
        have ne_b11_b12 : b11 ≠ b12 := Nat.ne_of_lt (Nat.lt_of_lt_of_le A_b11_11.lt (Nat.le_of_eq g12.symm))
        refine Go.step st12 ?_
        have A_a2_12 := A_a2_11.ext E12
        have A_b3_12 := A_b3_11.ext E12
        have E_b3_12 := E_b3_11.ext E12
        have A_b11_12 := A_b11_11.ext E12
        have Z12 := Nat.le_trans Z11 E12.1
        have KK12 : Keep h0 h12 [] := KK11.ext E12
        have A_b12_12 : Ary Z h12 b12 .int (nb ee 0).length (fun i => .int ((fun _ => (0 : Int32)) i)) := Ary.mk A12 ((degT ee 0 hTen).1 : ¬ ((degF ee ee.length) 0) < 0) (degT ee 0 hTen).2.2
        replace X12 : Stand p l e ({ frames := 1, cells := 5, slots := 36, locals := 14 } : Room) s m #[(.int (3 : Int32)), (.ref a2)] below meth c T12 _ 3 16 := X12
        show Go p e below _ (T12.setTop (mkF m 77 _ [(.ref b12), (.int (0 : Int32)), (.ref b11)]))
        obtain ⟨cl13, Ar13, in13, -⟩ := A_b11_12.hin (j := (0 : Int32)) (by decide) (by decide)
        obtain ⟨T13, h13, X13, e13, W13, st13⟩ := Jvm.RoadKit.stR X12 hx hZ e12 Ar13 in13 rfl (A_b11_12.sto (Ins.self Ex12)) (g := (mkF m 77 #[.val (.int (3 : Int32)), .val (.ref a2), .val (.ref b3), .val (.ref b11), .val (.int (0 : Int32)), .val (.int (Int32.ofNat ee.length)), sl6, sm6, .unset, .unset, .unset] [(.ref b12), (.int (0 : Int32)), (.ref b11)])) rfl rfl (hb hby d4_77)
        refine Go.step st13 ?_
        have N13 := Fr.snoc X13 Nl4 g_b11
        have A_a2_13 := A_a2_12.other W13 ne_a2_b11
        have A_b3_13 := A_b3_12.other W13 ne_b3_b11
        have E_b3_13 := E_b3_12.wr W13
        have A_b12_13 := A_b12_12.other W13 (Ne.symm ne_b11_b12)
        have E_b12_13 := Ex12.wr W13
        have Z13 := Nat.le_trans Z12 (Keep.of_wr W13).1
        have KK13 : Keep h0 h13 [] := KK12.wr W13 (Or.inr sz_b11)
        have A_b11_13 : RAry Z h13 b11 (.array .int) "[I" 3 (upA (fun _ => .null) 0 (.ref b12)) := A_b11_12.set W13 (by decide)
        show Go p e below _ (T13.setTop (mkF m 78 _ []))
        refine gA (q := 79) X13 hx (hb hby d4_78) rfl rfl rfl ?_
        refine gJ (q := 81) X13 hx (hb hby d4_79) rfl rfl ?_
        refine gC (q := 82) (v := 0) X13 hx (hb hby d4_81) rfl rfl ?_
        obtain ⟨cl14, Ar14, in14, -⟩ := A_b3_13.hin (j := (0 : Int32)) (by decide) (by decide)
        obtain ⟨T14, h14, X14, e14, W14, st14⟩ := stI X13 hx hZ e13 Ar14 in14 (g := (mkF m 82 #[.val (.int (3 : Int32)), .val (.ref a2), .val (.ref b3), .val (.ref b11), .val (.int (0 : Int32)), .val (.int (Int32.ofNat ee.length)), sl6, sm6, .unset, .unset, .unset] [(.int (0 : Int32)), (.int (0 : Int32)), (.ref b3)])) rfl rfl (hb hby d4_82)
        refine Go.step st14 ?_
        have N14 := Fr.snoc X14 N13 g_b3
        have A_a2_14 := A_a2_13.other W14 ne_a2_b3
        have E_b3_14 := E_b3_13.wr W14
        have A_b12_14 := A_b12_13.other W14 (Ne.symm ne_b3_b12)
        have E_b12_14 := E_b12_13.wr W14
        have A_b11_14 := A_b11_13.other W14 (Ne.symm ne_b3_b11)
        have Z14 := Nat.le_trans Z13 (Keep.of_wr W14).1
        have KK14 : Keep h0 h14 [] := KK13.wr W14 (Or.inr sz_b3)
        have A_b3_14 : Ary Z h14 b3 .int 3 (fun i => .int ((upA (degF ee ee.length) 0 (0 : Int32)) i)) := A_b3_13.setI W14 (by decide)
        show Go p e below _ (T14.setTop (mkF m 83 _ []))
        refine Go.step (fun t k => XS.iinc X14.here hx rfl (hb hby d4_83) rfl (l' := #[.val (.int (3 : Int32)), .val (.ref a2), .val (.ref b3), .val (.ref b11), .val (.int (1 : Int32)), .val (.int (Int32.ofNat ee.length)), sl6, sm6, .unset, .unset, .unset]) rfl k) ?_
        show Go p e below _ (T14.setTop (mkF m 86 _ []))
        refine Go.step (fun t k => XS.goto X14.here hx rfl (pc0 := 86) (pc' := 62) rfl (hb hby d4_86) (by decide) (by decide) k) ?_
        show Go p e below _ (T14.setTop (mkF m 62 _ []))
        refine gJ (q := 64) X14 hx (hb hby d4_62) rfl rfl ?_
        refine gI (q := 65) X14 hx (hb hby d4_64) rfl rfl ?_
        refine Go.step (fun t k => XS.icmpNo X14.here hx rfl (hb hby d4_65) rfl (tlt (by decide : (1 : Int32) < (3 : Int32))).2.1 k) ?_
        show Go p e below _ (T14.setTop (mkF m 68 _ []))
        refine gA (q := 69) X14 hx (hb hby d4_68) rfl rfl rfl ?_
        refine gJ (q := 71) X14 hx (hb hby d4_69) rfl rfl ?_
        refine gA (q := 72) X14 hx (hb hby d4_71) rfl rfl rfl ?_
        refine gJ (q := 74) X14 hx (hb hby d4_72) rfl rfl ?_
        refine Go.step (ldI X14 hx hZ e14 A_b3_14 (j := (1 : Int32)) (by decide) (by decide) (g := (mkF m 74 _ [(.int (1 : Int32)), (.ref b3), (.int (1 : Int32)), (.ref b11)])) rfl rfl (hb hby d4_74)) ?_
        show Go p e below _ (T14.setTop (mkF m 75 _ [(.int ((degF ee ee.length) 1)), (.int (1 : Int32)), (.ref b11)]))
        obtain ⟨T15, h15, k15, X15, e15, E15, A15, Ex15, st15⟩ := newPE X14 hx hZ (hw _ (List.mem_of_getElem? (i := 16) rfl)) e14 (g := (mkF m 75 #[.val (.int (3 : Int32)), .val (.ref a2), .val (.ref b3), .val (.ref b11), .val (.int (1 : Int32)), .val (.int (Int32.ofNat ee.length)), sl6, sm6, .unset, .unset, .unset] [(.int ((degF ee ee.length) 1)), (.int (1 : Int32)), (.ref b11)])) rfl (hb hby d4_75) rfl ((degT ee 1 hTen).1 : ¬ ((degF ee ee.length) 1) < 0) (cap := 10) ((degT ee 1 hTen).2.1 : ((degF ee ee.length) 1).toNatClampNeg ≤ 10) (by decide) (by decide) (by decide) (ad := "[I") rfl
        obtain ⟨b15, g15⟩ : ∃ z, z = h14.size := ⟨_, rfl⟩
        rw [← g15] at A15 Ex15 st15
        have g_b15 : n0 ≤ b15 := Nat.le_trans Z14 (Nat.le_of_eq g15.symm)
        have sz_b15 : h0.size ≤ b15 := Nat.le_trans KK14.1 (Nat.le_of_eq g15.symm)
        have ne_a2_b15 : a2 ≠ b15 := Nat.ne_of_lt (Nat.lt_of_lt_of_le A_a2_14.lt (Nat.le_of_eq g15.symm))
        have ne_b3_b15 : b3 ≠ b15 := Nat.ne_of_lt (Nat.lt_of_lt_of_le E_b3_14.lt (Nat.le_of_eq g15.symm))
        have ne_b12_b15 : b12 ≠ b15 := Nat.ne_of_lt (Nat.lt_of_lt_of_le A_b12_14.lt (Nat.le_of_eq g15.symm))
        have ne_b11_b15 : b11 ≠ b15 := Nat.ne_of_lt (Nat.lt_of_lt_of_le A_b11_14.lt (Nat.le_of_eq g15.symm))
        refine Go.step st15 ?_
        have A_a2_15 := A_a2_14.ext E15
        have E_b3_15 := E_b3_14.ext E15
        have A_b12_15 := A_b12_14.ext E15
        have E_b12_15 := E_b12_14.ext E15
        have A_b11_15 := A_b11_14.ext E15
        have A_b3_15 := A_b3_14.ext E15
        have Z15 := Nat.le_trans Z14 E15.1
        have KK15 : Keep h0 h15 [] := KK14.ext E15
        have A_b15_15 : Ary Z h15 b15 .int (nb ee 1).length (fun i => .int ((fun _ => (0 : Int32)) i)) := Ary.mk A15 ((degT ee 1 hTen).1 : ¬ ((degF ee ee.length) 1) < 0) (degT ee 1 hTen).2.2
        replace X15 : Stand p l e ({ frames := 1, cells := 5, slots := 36, locals := 14 } : Room) s m #[(.int (3 : Int32)), (.ref a2)] below meth c T15 _ 4 26 := X15
        show Go p e below _ (T15.setTop (mkF m 77 _ [(.ref b15), (.int (1 : Int32)), (.ref b11)]))
        obtain ⟨cl16, Ar16, in16, -⟩ := A_b11_15.hin (j := (1 : Int32)) (by decide) (by decide)
        obtain ⟨T16, h16, X16, e16, W16, st16⟩ := Jvm.RoadKit.stR X15 hx hZ e15 Ar16 in16 rfl (A_b11_15.sto (Ins.self Ex15)) (g := (mkF m 77 #[.val (.int (3 : Int32)), .val (.ref a2), .val (.ref b3), .val (.ref b11), .val (.int (1 : Int32)), .val (.int (Int32.ofNat ee.length)), sl6, sm6, .unset, .unset, .unset] [(.ref b15), (.int (1 : Int32)), (.ref b11)])) rfl rfl (hb hby d4_77)
        refine Go.step st16 ?_
        have N16 := Fr.snoc X16 N14 g_b11
        have A_a2_16 := A_a2_15.other W16 ne_a2_b11
        have E_b3_16 := E_b3_15.wr W16
        have A_b12_16 := A_b12_15.other W16 (Ne.symm ne_b11_b12)
        have E_b12_16 := E_b12_15.wr W16
        have A_b3_16 := A_b3_15.other W16 ne_b3_b11
        have A_b15_16 := A_b15_15.other W16 (Ne.symm ne_b11_b15)
        have E_b15_16 := Ex15.wr W16
        have Z16 := Nat.le_trans Z15 (Keep.of_wr W16).1
        have KK16 : Keep h0 h16 [] := KK15.wr W16 (Or.inr sz_b11)
        have A_b11_16 : RAry Z h16 b11 (.array .int) "[I" 3 (upA (upA (fun _ => .null) 0 (.ref b12)) 1 (.ref b15)) := A_b11_15.set W16 (by decide)
        show Go p e below _ (T16.setTop (mkF m 78 _ []))
        refine gA (q := 79) X16 hx (hb hby d4_78) rfl rfl rfl ?_
        refine gJ (q := 81) X16 hx (hb hby d4_79) rfl rfl ?_
        refine gC (q := 82) (v := 0) X16 hx (hb hby d4_81) rfl rfl ?_
        obtain ⟨cl17, Ar17, in17, -⟩ := A_b3_16.hin (j := (1 : Int32)) (by decide) (by decide)
        obtain ⟨T17, h17, X17, e17, W17, st17⟩ := stI X16 hx hZ e16 Ar17 in17 (g := (mkF m 82 #[.val (.int (3 : Int32)), .val (.ref a2), .val (.ref b3), .val (.ref b11), .val (.int (1 : Int32)), .val (.int (Int32.ofNat ee.length)), sl6, sm6, .unset, .unset, .unset] [(.int (0 : Int32)), (.int (1 : Int32)), (.ref b3)])) rfl rfl (hb hby d4_82)
        refine Go.step st17 ?_
        have N17 := Fr.snoc X17 N16 g_b3
        have A_a2_17 := A_a2_16.other W17 ne_a2_b3
        have E_b3_17 := E_b3_16.wr W17
        have A_b12_17 := A_b12_16.other W17 (Ne.symm ne_b3_b12)
        have E_b12_17 := E_b12_16.wr W17
        have A_b15_17 := A_b15_16.other W17 (Ne.symm ne_b3_b15)
        have E_b15_17 := E_b15_16.wr W17
        have A_b11_17 := A_b11_16.other W17 (Ne.symm ne_b3_b11)
        have Z17 := Nat.le_trans Z16 (Keep.of_wr W17).1
        have KK17 : Keep h0 h17 [] := KK16.wr W17 (Or.inr sz_b3)
        have A_b3_17 : Ary Z h17 b3 .int 3 (fun i => .int ((upA (upA (degF ee ee.length) 0 (0 : Int32)) 1 (0 : Int32)) i)) := A_b3_16.setI W17 (by decide)
        show Go p e below _ (T17.setTop (mkF m 83 _ []))
        refine Go.step (fun t k => XS.iinc X17.here hx rfl (hb hby d4_83) rfl (l' := #[.val (.int (3 : Int32)), .val (.ref a2), .val (.ref b3), .val (.ref b11), .val (.int (2 : Int32)), .val (.int (Int32.ofNat ee.length)), sl6, sm6, .unset, .unset, .unset]) rfl k) ?_
        show Go p e below _ (T17.setTop (mkF m 86 _ []))
        refine Go.step (fun t k => XS.goto X17.here hx rfl (pc0 := 86) (pc' := 62) rfl (hb hby d4_86) (by decide) (by decide) k) ?_
        show Go p e below _ (T17.setTop (mkF m 62 _ []))
        refine gJ (q := 64) X17 hx (hb hby d4_62) rfl rfl ?_
        refine gI (q := 65) X17 hx (hb hby d4_64) rfl rfl ?_
        refine Go.step (fun t k => XS.icmpNo X17.here hx rfl (hb hby d4_65) rfl (tlt (by decide : (2 : Int32) < (3 : Int32))).2.1 k) ?_
        show Go p e below _ (T17.setTop (mkF m 68 _ []))
        refine gA (q := 69) X17 hx (hb hby d4_68) rfl rfl rfl ?_
        refine gJ (q := 71) X17 hx (hb hby d4_69) rfl rfl ?_
        refine gA (q := 72) X17 hx (hb hby d4_71) rfl rfl rfl ?_
        refine gJ (q := 74) X17 hx (hb hby d4_72) rfl rfl ?_
        refine Go.step (ldI X17 hx hZ e17 A_b3_17 (j := (2 : Int32)) (by decide) (by decide) (g := (mkF m 74 _ [(.int (2 : Int32)), (.ref b3), (.int (2 : Int32)), (.ref b11)])) rfl rfl (hb hby d4_74)) ?_
        show Go p e below _ (T17.setTop (mkF m 75 _ [(.int ((degF ee ee.length) 2)), (.int (2 : Int32)), (.ref b11)]))
        obtain ⟨T18, h18, k18, X18, e18, E18, A18, Ex18, st18⟩ := newPE X17 hx hZ (hw _ (List.mem_of_getElem? (i := 16) rfl)) e17 (g := (mkF m 75 #[.val (.int (3 : Int32)), .val (.ref a2), .val (.ref b3), .val (.ref b11), .val (.int (2 : Int32)), .val (.int (Int32.ofNat ee.length)), sl6, sm6, .unset, .unset, .unset] [(.int ((degF ee ee.length) 2)), (.int (2 : Int32)), (.ref b11)])) rfl (hb hby d4_75) rfl ((degT ee 2 hTen).1 : ¬ ((degF ee ee.length) 2) < 0) (cap := 10) ((degT ee 2 hTen).2.1 : ((degF ee ee.length) 2).toNatClampNeg ≤ 10) (by decide) (by decide) (by decide) (ad := "[I") rfl
        obtain ⟨b18, g18⟩ : ∃ z, z = h17.size := ⟨_, rfl⟩
        rw [← g18] at A18 Ex18 st18
        have g_b18 : n0 ≤ b18 := Nat.le_trans Z17 (Nat.le_of_eq g18.symm)
        have sz_b18 : h0.size ≤ b18 := Nat.le_trans KK17.1 (Nat.le_of_eq g18.symm)
        have ne_a2_b18 : a2 ≠ b18 := Nat.ne_of_lt (Nat.lt_of_lt_of_le A_a2_17.lt (Nat.le_of_eq g18.symm))
        have ne_b3_b18 : b3 ≠ b18 := Nat.ne_of_lt (Nat.lt_of_lt_of_le E_b3_17.lt (Nat.le_of_eq g18.symm))
        have ne_b12_b18 : b12 ≠ b18 := Nat.ne_of_lt (Nat.lt_of_lt_of_le A_b12_17.lt (Nat.le_of_eq g18.symm))
        have ne_b15_b18 : b15 ≠ b18 := Nat.ne_of_lt (Nat.lt_of_lt_of_le A_b15_17.lt (Nat.le_of_eq g18.symm))
        have ne_b11_b18 : b11 ≠ b18 := Nat.ne_of_lt (Nat.lt_of_lt_of_le A_b11_17.lt (Nat.le_of_eq g18.symm))
        refine Go.step st18 ?_
        have A_a2_18 := A_a2_17.ext E18
        have E_b3_18 := E_b3_17.ext E18
        have A_b12_18 := A_b12_17.ext E18
        have E_b12_18 := E_b12_17.ext E18
        have A_b15_18 := A_b15_17.ext E18
        have E_b15_18 := E_b15_17.ext E18
        have A_b11_18 := A_b11_17.ext E18
        have A_b3_18 := A_b3_17.ext E18
        have Z18 := Nat.le_trans Z17 E18.1
        have KK18 : Keep h0 h18 [] := KK17.ext E18
        have A_b18_18 : Ary Z h18 b18 .int (nb ee 2).length (fun i => .int ((fun _ => (0 : Int32)) i)) := Ary.mk A18 ((degT ee 2 hTen).1 : ¬ ((degF ee ee.length) 2) < 0) (degT ee 2 hTen).2.2
        replace X18 : Stand p l e ({ frames := 1, cells := 5, slots := 36, locals := 14 } : Room) s m #[(.int (3 : Int32)), (.ref a2)] below meth c T18 _ 5 36 := X18
        show Go p e below _ (T18.setTop (mkF m 77 _ [(.ref b18), (.int (2 : Int32)), (.ref b11)]))
        obtain ⟨cl19, Ar19, in19, -⟩ := A_b11_18.hin (j := (2 : Int32)) (by decide) (by decide)
        obtain ⟨T19, h19, X19, e19, W19, st19⟩ := Jvm.RoadKit.stR X18 hx hZ e18 Ar19 in19 rfl (A_b11_18.sto (Ins.self Ex18)) (g := (mkF m 77 #[.val (.int (3 : Int32)), .val (.ref a2), .val (.ref b3), .val (.ref b11), .val (.int (2 : Int32)), .val (.int (Int32.ofNat ee.length)), sl6, sm6, .unset, .unset, .unset] [(.ref b18), (.int (2 : Int32)), (.ref b11)])) rfl rfl (hb hby d4_77)
        refine Go.step st19 ?_
        have N19 := Fr.snoc X19 N17 g_b11
        have A_a2_19 := A_a2_18.other W19 ne_a2_b11
        have E_b3_19 := E_b3_18.wr W19
        have A_b12_19 := A_b12_18.other W19 (Ne.symm ne_b11_b12)
        have E_b12_19 := E_b12_18.wr W19
        have A_b15_19 := A_b15_18.other W19 (Ne.symm ne_b11_b15)
        have E_b15_19 := E_b15_18.wr W19
        have A_b3_19 := A_b3_18.other W19 ne_b3_b11
        have A_b18_19 := A_b18_18.other W19 (Ne.symm ne_b11_b18)
        have E_b18_19 := Ex18.wr W19
        have Z19 := Nat.le_trans Z18 (Keep.of_wr W19).1
        have KK19 : Keep h0 h19 [] := KK18.wr W19 (Or.inr sz_b11)
        have A_b11_19 : RAry Z h19 b11 (.array .int) "[I" 3 (upA (upA (upA (fun _ => .null) 0 (.ref b12)) 1 (.ref b15)) 2 (.ref b18)) := A_b11_18.set W19 (by decide)
        show Go p e below _ (T19.setTop (mkF m 78 _ []))
        refine gA (q := 79) X19 hx (hb hby d4_78) rfl rfl rfl ?_
        refine gJ (q := 81) X19 hx (hb hby d4_79) rfl rfl ?_
        refine gC (q := 82) (v := 0) X19 hx (hb hby d4_81) rfl rfl ?_
        obtain ⟨cl20, Ar20, in20, -⟩ := A_b3_19.hin (j := (2 : Int32)) (by decide) (by decide)
        obtain ⟨T20, h20, X20, e20, W20, st20⟩ := stI X19 hx hZ e19 Ar20 in20 (g := (mkF m 82 #[.val (.int (3 : Int32)), .val (.ref a2), .val (.ref b3), .val (.ref b11), .val (.int (2 : Int32)), .val (.int (Int32.ofNat ee.length)), sl6, sm6, .unset, .unset, .unset] [(.int (0 : Int32)), (.int (2 : Int32)), (.ref b3)])) rfl rfl (hb hby d4_82)
        refine Go.step st20 ?_
        have N20 := Fr.snoc X20 N19 g_b3
        have A_a2_20 := A_a2_19.other W20 ne_a2_b3
        have E_b3_20 := E_b3_19.wr W20
        have A_b12_20 := A_b12_19.other W20 (Ne.symm ne_b3_b12)
        have E_b12_20 := E_b12_19.wr W20
        have A_b15_20 := A_b15_19.other W20 (Ne.symm ne_b3_b15)
        have E_b15_20 := E_b15_19.wr W20
        have A_b18_20 := A_b18_19.other W20 (Ne.symm ne_b3_b18)
        have E_b18_20 := E_b18_19.wr W20
        have A_b11_20 := A_b11_19.other W20 (Ne.symm ne_b3_b11)
        have Z20 := Nat.le_trans Z19 (Keep.of_wr W20).1
        have KK20 : Keep h0 h20 [] := KK19.wr W20 (Or.inr sz_b3)
        have A_b3_20 : Ary Z h20 b3 .int 3 (fun i => .int ((upA (upA (upA (degF ee ee.length) 0 (0 : Int32)) 1 (0 : Int32)) 2 (0 : Int32)) i)) := A_b3_19.setI W20 (by decide)
        show Go p e below _ (T20.setTop (mkF m 83 _ []))
        refine Go.step (fun t k => XS.iinc X20.here hx rfl (hb hby d4_83) rfl (l' := #[.val (.int (3 : Int32)), .val (.ref a2), .val (.ref b3), .val (.ref b11), .val (.int (3 : Int32)), .val (.int (Int32.ofNat ee.length)), sl6, sm6, .unset, .unset, .unset]) rfl k) ?_
        show Go p e below _ (T20.setTop (mkF m 86 _ []))
        refine Go.step (fun t k => XS.goto X20.here hx rfl (pc0 := 86) (pc' := 62) rfl (hb hby d4_86) (by decide) (by decide) k) ?_
        show Go p e below _ (T20.setTop (mkF m 62 _ []))
        refine gJ (q := 64) X20 hx (hb hby d4_62) rfl rfl ?_
        refine gI (q := 65) X20 hx (hb hby d4_64) rfl rfl ?_
        refine Go.step (fun t k => XS.icmpYes X20.here hx rfl (pc0 := 65) (pc' := 89) rfl (hb hby d4_65) rfl (flt (by decide : ¬ ((3 : Int32) < (3 : Int32)))).2.1 (by decide) (by decide) k) ?_
        show Go p e below _ (T20.setTop (mkF m 89 _ []))
        show Go p e below _ (T20.setTop (mkF m 89 _ []))
        refine gA (q := 90) X20 hx (hb hby d4_89) rfl rfl rfl ?_
        refine Go.step (fun t k => XS.astore X20.here hx rfl (hb hby d4_90) rfl rfl (l' := #[.val (.int (3 : Int32)), .val (.ref a2), .val (.ref b3), .val (.ref b11), .val (.ref a2), .val (.int (Int32.ofNat ee.length)), sl6, sm6, .unset, .unset, .unset]) rfl k) ?_
        show Go p e below _ (T20.setTop (mkF m 92 _ []))
        refine gB (q := 94) X20 hx (hb hby d4_92) rfl rfl rfl ?_
        refine Go.step (lenA X20 hx hZ e20 A_a2_20 (g := (mkF m 94 _ [(.ref a2)])) rfl rfl (hb hby d4_94)) ?_
        show Go p e below _ (T20.setTop (mkF m 95 _ [(.int ee.length.toInt32)]))
        refine Go.step (fun t k => XS.istore X20.here hx rfl (hb hby d4_95) rfl (l' := #[.val (.int (3 : Int32)), .val (.ref a2), .val (.ref b3), .val (.ref b11), .val (.ref a2), .val (.int ee.length.toInt32), sl6, sm6, .unset, .unset, .unset]) rfl k) ?_
        show Go p e below _ (T20.setTop (mkF m 97 _ []))
        refine gC (q := 98) (v := 0) X20 hx (hb hby d4_97) rfl rfl ?_
        refine Go.step (fun t k => XS.istore X20.here hx rfl (hb hby d4_98) rfl (l' := #[.val (.int (3 : Int32)), .val (.ref a2), .val (.ref b3), .val (.ref b11), .val (.ref a2), .val (.int ee.length.toInt32), .val (.int (0 : Int32)), .unset, .unset, .unset, .unset]) (by rcases hsl6 with ⟨rfl, rfl⟩ | ⟨w, rfl, rfl⟩ <;> rfl) k) ?_
        show Go p e below _ (T20.setTop (mkF m 100 _ []))
        have LOOP100 : ∀ (mm : Nat) (kk : Nat) (sl9 : Slot) (hsl9 : One sl9) (sl10 : Slot) (hsl10 : One sl10) (sl7 sm7 : Slot) (hsl7 : Two sl7 sm7) (Tl21 : State) (Ll21 : List Loc) (hl21 : Heap) (hmm : ee.length - kk = mm) (hk : kk ≤ ee.length) (Xl21 : Stand p l e ({ frames := 1, cells := 5, slots := 36, locals := 14 } : Room) s m #[(.int (3 : Int32)), (.ref a2)] below meth c Tl21 Ll21 5 36) (Nl21 : Fr n0 Ll21) (el21 : Tl21.heap = hl21) (KKl21 : Keep h0 hl21 []) (Zl21 : n0 ≤ hl21.size) (A_a2_l21 : Ary Z hl21 a2 .long ee.length (fun i => .long ((encF ee) i))) (A_b12_l21 : Ary Z hl21 b12 .int (nb ee 0).length (fun i => .int ((rowF (nb (ee.take kk) 0)) i))) (A_b15_l21 : Ary Z hl21 b15 .int (nb ee 1).length (fun i => .int ((rowF (nb (ee.take kk) 1)) i))) (A_b18_l21 : Ary Z hl21 b18 .int (nb ee 2).length (fun i => .int ((rowF (nb (ee.take kk) 2)) i))) (A_b11_l21 : RAry Z hl21 b11 (.array .int) "[I" 3 (upA (upA (upA (fun _ => .null) 0 (.ref b12)) 1 (.ref b15)) 2 (.ref b18))) (A_b3_l21 : Ary Z hl21 b3 .int 3 (fun i => .int ((degF ee kk) i))), Go p e below (FinQ below s (Q4_3 Z a2 ee h0 n0) ({ frames := 1, cells := 5, slots := 36, locals := 14 } : Room).cells ({ frames := 1, cells := 5, slots := 36, locals := 14 } : Room).slots) (Tl21.setTop (mkF m 100 #[.val (.int (3 : Int32)), .val (.ref a2), .val (.ref b3), .val (.ref b11), .val (.ref a2), .val (.int ee.length.toInt32), .val (.int (Int32.ofNat kk)), sl7, sm7, sl9, sl10] [])) := by
          intro mm
          induction mm using Nat.strongRecOn with
          | _ mm ih =>
            intro kk sl9 hsl9 sl10 hsl10 sl7 sm7 hsl7 Tl21 Ll21 hl21 hmm hk Xl21 Nl21 el21 KKl21 Zl21 A_a2_l21 A_b12_l21 A_b15_l21 A_b18_l21 A_b11_l21 A_b3_l21
            show Go p e below _ (Tl21.setTop (mkF m 100 _ []))
            refine gJ (q := 102) Xl21 hx (hb hby d4_100) rfl rfl ?_
            refine gJ (q := 104) Xl21 hx (hb hby d4_102) rfl rfl ?_
            by_cases hc22 : (Int32.ofNat kk) < ee.length.toInt32
            · refine Go.step (fun t k => XS.icmpNo Xl21.here hx rfl (hb hby d4_104) rfl (tlt hc22).2.1 k) ?_
              show Go p e below _ (Tl21.setTop (mkF m 107 _ []))
              refine gB (q := 109) Xl21 hx (hb hby d4_107) rfl rfl rfl ?_
              refine gJ (q := 111) Xl21 hx (hb hby d4_109) rfl rfl ?_
              refine Go.step (ldJ Xl21 hx hZ el21 A_a2_l21 (j := (Int32.ofNat kk)) (of_nn (by omega)) (by rw [clamp_nat (by omega)]; exact j_lt hTen hk hc22) (g := (mkF m 111 _ [(.int (Int32.ofNat kk)), (.ref a2)])) rfl rfl (hb hby d4_111)) ?_
              show Go p e below _ (Tl21.setTop (mkF m 112 _ [(.long ((encF ee) (Int32.ofNat kk).toNatClampNeg))]))
              refine nameIt (fun zz : Int64 => Go p e below _ (Tl21.setTop (mkF m 112 #[.val (.int (3 : Int32)), .val (.ref a2), .val (.ref b3), .val (.ref b11), .val (.ref a2), .val (.int ee.length.toInt32), .val (.int (Int32.ofNat kk)), sl7, sm7, sl9, sl10] [(.long zz)]))) ((encF ee) (Int32.ofNat kk).toNatClampNeg) ?_
              intro v23 hv23
              show Go p e below _ (Tl21.setTop (mkF m 112 _ [(.long v23)]))
              refine Go.step (fun t k => XS.lstore Xl21.here hx rfl (hb hby d4_112) rfl (l' := #[.val (.int (3 : Int32)), .val (.ref a2), .val (.ref b3), .val (.ref b11), .val (.ref a2), .val (.int ee.length.toInt32), .val (.int (Int32.ofNat kk)), .val (.long v23), .second, sl9, sl10]) (by rcases hsl7 with ⟨rfl, rfl⟩ | ⟨w, rfl, rfl⟩ <;> rfl) k) ?_
              show Go p e below _ (Tl21.setTop (mkF m 114 _ []))
              have hkl : kk < ee.length := j_lt hTen hk hc22
              obtain ⟨ea, eb, hq, hab, hbn, hor⟩ := pick_3 hE hkl
              have hva : ea < 2147483648 := by omega
              have hvb : eb < 2147483648 := by omega
              rw [show v23 = enc (ea, eb) by rw [hv23, clamp_nat (by omega)]; exact congrArg enc hq]
              show Go p e below _ (Tl21.setTop (mkF m 114 _ []))
              refine Go.step (fun t k => XS.lload Xl21.here hx rfl (hb hby d4_114) rfl k) ?_
              show Go p e below _ (Tl21.setTop (mkF m 116 _ [(.long (enc (ea, eb)))]))
              obtain ⟨_, _, ⟨T24, L24, k24, n24⟩, -, X24, ⟨Lc24, hQ24, l24, y24, z24⟩, st24⟩ := Jvm.LawKit.callS Xl21 hx (y := (⟨"com/example/hertzbid/hertzbid/ConflictPairs", "first", "(J)I"⟩ : MethodName)) hown (mvT hZ (hw _ (List.mem_of_getElem? (i := 25) rfl))) (mvT hZ (hw _ (List.mem_of_getElem? (i := 26) rfl))) (mvT hZ (hw _ (List.mem_of_getElem? (i := 14) rfl))) (mvT hZ (hw _ (List.mem_of_getElem? (i := 27) rfl))) (by decide) (backOf (W := 0) (rm7 l Z a0 hw [] (enc (ea, eb)) hl21 n0 Zl21) hZ (hw _ (List.mem_of_getElem? (i := 27) rfl)) (hw _ (List.mem_of_getElem? (i := 14) rfl)) (by decide) (by decide)) (g := (mkF m 116 #[.val (.int (3 : Int32)), .val (.ref a2), .val (.ref b3), .val (.ref b11), .val (.ref a2), .val (.int ee.length.toInt32), .val (.int (Int32.ofNat kk)), .val (.long (enc (ea, eb))), .second, sl9, sl10] [(.long (enc (ea, eb)))])) rfl (by rw [hml]; rfl) (argsL := [(.long (enc (ea, eb)))]) (rest := []) (lenOf pd_2 rfl) rfl (by show 2 * 0 + _ ≤ _; exact Nat.le_of_eq rfl) (hb hby d4_116) (fun _ _ => ⟨rfl, el21, (by decide : 5 + 0 ≤ _), (by decide : 36 + 0 ≤ _)⟩)
              dsimp only [Pt.U, Pt.locs, Pt.cells, Pt.slots] at X24 l24 y24 z24 st24 hQ24
              replace y24 : k24 = 5 := y24
              replace z24 : n24 = 36 := z24
              subst y24 z24
              obtain ⟨rfl, N24q, e24⟩ := hQ24
              have N24 : Fr n0 L24 := Eq.mpr (congrArg (Fr n0) l24) (Fr.app Nl21 N24q)
              refine Go.step st24 ?_
              rw [f7_enc hab (Nat.lt_of_lt_of_le hbn (by decide))]
              show Go p e below _ (T24.setTop (mkF m 119 _ [(.int (Int32.ofNat ea))]))
              refine Go.step (fun t k => XS.istore X24.here hx rfl (hb hby d4_119) rfl (l' := #[.val (.int (3 : Int32)), .val (.ref a2), .val (.ref b3), .val (.ref b11), .val (.ref a2), .val (.int ee.length.toInt32), .val (.int (Int32.ofNat kk)), .val (.long (enc (ea, eb))), .second, .val (.int (Int32.ofNat ea)), sl10]) (by rcases hsl9 with rfl | ⟨w, rfl, hw⟩ <;> first | rfl | (cases w <;> first | rfl | (simp [Value.category] at hw))) k) ?_
              show Go p e below _ (T24.setTop (mkF m 121 _ []))
              refine Go.step (fun t k => XS.lload X24.here hx rfl (hb hby d4_121) rfl k) ?_
              show Go p e below _ (T24.setTop (mkF m 123 _ [(.long (enc (ea, eb)))]))
              obtain ⟨_, _, ⟨T25, L25, k25, n25⟩, -, X25, ⟨Lc25, hQ25, l25, y25, z25⟩, st25⟩ := Jvm.LawKit.callS X24 hx (y := (⟨"com/example/hertzbid/hertzbid/ConflictPairs", "second", "(J)I"⟩ : MethodName)) hown (mvT hZ (hw _ (List.mem_of_getElem? (i := 28) rfl))) (mvT hZ (hw _ (List.mem_of_getElem? (i := 29) rfl))) (mvT hZ (hw _ (List.mem_of_getElem? (i := 14) rfl))) (mvT hZ (hw _ (List.mem_of_getElem? (i := 30) rfl))) (by decide) (backOf (W := 0) (rm8 l Z a0 hw [] (enc (ea, eb)) hl21 n0 Zl21) hZ (hw _ (List.mem_of_getElem? (i := 30) rfl)) (hw _ (List.mem_of_getElem? (i := 14) rfl)) (by decide) (by decide)) (g := (mkF m 123 #[.val (.int (3 : Int32)), .val (.ref a2), .val (.ref b3), .val (.ref b11), .val (.ref a2), .val (.int ee.length.toInt32), .val (.int (Int32.ofNat kk)), .val (.long (enc (ea, eb))), .second, .val (.int (Int32.ofNat ea)), sl10] [(.long (enc (ea, eb)))])) rfl (by rw [hml]; rfl) (argsL := [(.long (enc (ea, eb)))]) (rest := []) (lenOf pd_2 rfl) rfl (by show 2 * 0 + _ ≤ _; exact Nat.le_of_eq rfl) (hb hby d4_123) (fun _ _ => ⟨rfl, e24, (by decide : 5 + 0 ≤ _), (by decide : 36 + 0 ≤ _)⟩)
              dsimp only [Pt.U, Pt.locs, Pt.cells, Pt.slots] at X25 l25 y25 z25 st25 hQ25
              replace y25 : k25 = 5 := y25
              replace z25 : n25 = 36 := z25
              subst y25 z25
              obtain ⟨rfl, N25q, e25⟩ := hQ25
              have N25 : Fr n0 L25 := Eq.mpr (congrArg (Fr n0) l25) (Fr.app N24 N25q)
              refine Go.step st25 ?_
              rw [f8_enc hab (Nat.lt_of_lt_of_le hbn (by decide))]
              show Go p e below _ (T25.setTop (mkF m 126 _ [(.int (Int32.ofNat eb))]))
              refine Go.step (fun t k => XS.istore X25.here hx rfl (hb hby d4_126) rfl (l' := #[.val (.int (3 : Int32)), .val (.ref a2), .val (.ref b3), .val (.ref b11), .val (.ref a2), .val (.int ee.length.toInt32), .val (.int (Int32.ofNat kk)), .val (.long (enc (ea, eb))), .second, .val (.int (Int32.ofNat ea)), .val (.int (Int32.ofNat eb))]) (by rcases hsl10 with rfl | ⟨w, rfl, hw⟩ <;> first | rfl | (cases w <;> first | rfl | (simp [Value.category] at hw))) k) ?_
              show Go p e below _ (T25.setTop (mkF m 128 _ []))
              rcases hor with ⟨rfl, rfl⟩ | ⟨rfl, rfl⟩ | ⟨rfl, rfl⟩
              · skip
                show Go p e below _ (T25.setTop (mkF m 128 #[.val (.int (3 : Int32)), .val (.ref a2), .val (.ref b3), .val (.ref b11), .val (.ref a2), .val (.int ee.length.toInt32), .val (.int (Int32.ofNat kk)), .val (.long (enc (0, 1))), .second, .val (.int (0 : Int32)), .val (.int (1 : Int32))] []))
                refine gA (q := 129) X25 hx (hb hby d4_128) rfl rfl rfl ?_
                refine gJ (q := 131) X25 hx (hb hby d4_129) rfl rfl ?_
                refine Go.step (ldR X25 hx hZ e25 A_b11_l21.ary rfl (j := (0 : Int32)) (by decide) (by decide) (g := (mkF m 131 _ [(.int (0 : Int32)), (.ref b11)])) rfl rfl (hb hby d4_131)) ?_
                show Go p e below _ (T25.setTop (mkF m 132 _ [(.ref b12)]))
                refine gA (q := 133) X25 hx (hb hby d4_132) rfl rfl rfl ?_
                refine gJ (q := 135) X25 hx (hb hby d4_133) rfl rfl ?_
                refine Go.step (S' := T25.setTop (mkF m 136 #[.val (.int (3 : Int32)), .val (.ref a2), .val (.ref b3), .val (.ref b11), .val (.ref a2), .val (.int ee.length.toInt32), .val (.int (Int32.ofNat kk)), .val (.long (enc (0, 1))), .second, .val (.int (0 : Int32)), .val (.int (1 : Int32))] [(.int (0 : Int32)), (.ref b3), (.int (0 : Int32)), (.ref b3), (.ref b12)])) (fun t k => ?_) ?_
                · jvm_step X25.here [X25.here.top, hx, (hb hby d4_135), Value.category]
                  exact k
                show Go p e below _ (T25.setTop (mkF m 136 _ [(.int (0 : Int32)), (.ref b3), (.int (0 : Int32)), (.ref b3), (.ref b12)]))
                refine Go.step (ldI X25 hx hZ e25 A_b3_l21 (j := (0 : Int32)) (by decide) (by decide) (g := (mkF m 136 _ [(.int (0 : Int32)), (.ref b3), (.int (0 : Int32)), (.ref b3), (.ref b12)])) rfl rfl (hb hby d4_136)) ?_
                show Go p e below _ (T25.setTop (mkF m 137 _ [(.int ((degF ee kk) 0)), (.int (0 : Int32)), (.ref b3), (.ref b12)]))
                refine Go.step (S' := T25.setTop (mkF m 138 #[.val (.int (3 : Int32)), .val (.ref a2), .val (.ref b3), .val (.ref b11), .val (.ref a2), .val (.int ee.length.toInt32), .val (.int (Int32.ofNat kk)), .val (.long (enc (0, 1))), .second, .val (.int (0 : Int32)), .val (.int (1 : Int32))] [(.int ((degF ee kk) 0)), (.int (0 : Int32)), (.ref b3), (.int ((degF ee kk) 0)), (.ref b12)])) (fun t k => ?_) ?_
                · jvm_step X25.here [X25.here.top, hx, (hb hby d4_137), Value.category]
                  exact k
                show Go p e below _ (T25.setTop (mkF m 138 _ [(.int ((degF ee kk) 0)), (.int (0 : Int32)), (.ref b3), (.int ((degF ee kk) 0)), (.ref b12)]))
                refine gC (q := 139) (v := 1) X25 hx (hb hby d4_138) rfl rfl ?_
                refine Go.step (fun t k => XS.iadd X25.here hx rfl (hb hby d4_139) rfl k) ?_
                show Go p e below _ (T25.setTop (mkF m 140 _ [(.int (((degF ee kk) 0) + (1 : Int32))), (.int (0 : Int32)), (.ref b3), (.int ((degF ee kk) 0)), (.ref b12)]))
                obtain ⟨cl26, Ar26, in26, -⟩ := A_b3_l21.hin (j := (0 : Int32)) (by decide) (by decide)
                obtain ⟨T26, h26, X26, e26, W26, st26⟩ := stI X25 hx hZ e25 Ar26 in26 (g := (mkF m 140 #[.val (.int (3 : Int32)), .val (.ref a2), .val (.ref b3), .val (.ref b11), .val (.ref a2), .val (.int ee.length.toInt32), .val (.int (Int32.ofNat kk)), .val (.long (enc (0, 1))), .second, .val (.int (0 : Int32)), .val (.int (1 : Int32))] [(.int (((degF ee kk) 0) + (1 : Int32))), (.int (0 : Int32)), (.ref b3), (.int ((degF ee kk) 0)), (.ref b12)])) rfl rfl (hb hby d4_140)
                refine Go.step st26 ?_
                have N26 := Fr.snoc X26 N25 g_b3
                have A_a2_26 := A_a2_l21.other W26 ne_a2_b3
                have A_b12_26 := A_b12_l21.other W26 (Ne.symm ne_b3_b12)
                have A_b15_26 := A_b15_l21.other W26 (Ne.symm ne_b3_b15)
                have A_b18_26 := A_b18_l21.other W26 (Ne.symm ne_b3_b18)
                have A_b11_26 := A_b11_l21.other W26 (Ne.symm ne_b3_b11)
                have Z26 := Nat.le_trans Zl21 (Keep.of_wr W26).1
                have KK26 : Keep h0 h26 [] := KKl21.wr W26 (Or.inr sz_b3)
                have A_b3_26 : Ary Z h26 b3 .int 3 (fun i => .int ((upA (degF ee kk) 0 (((degF ee kk) 0) + (1 : Int32))) i)) := A_b3_l21.setI W26 (by decide)
                show Go p e below _ (T26.setTop (mkF m 141 _ [(.int ((degF ee kk) 0)), (.ref b12)]))
                refine gJ (q := 143) X26 hx (hb hby d4_141) rfl rfl ?_
                obtain ⟨cl27, Ar27, in27, -⟩ := A_b12_26.hin (j := ((degF ee kk) 0)) (degB hTen (ltA hkl hq)).1 (degB hTen (ltA hkl hq)).2
                obtain ⟨T27, h27, X27, e27, W27, st27⟩ := stI X26 hx hZ e26 Ar27 in27 (g := (mkF m 143 #[.val (.int (3 : Int32)), .val (.ref a2), .val (.ref b3), .val (.ref b11), .val (.ref a2), .val (.int ee.length.toInt32), .val (.int (Int32.ofNat kk)), .val (.long (enc (0, 1))), .second, .val (.int (0 : Int32)), .val (.int (1 : Int32))] [(.int (1 : Int32)), (.int ((degF ee kk) 0)), (.ref b12)])) rfl rfl (hb hby d4_143)
                refine Go.step st27 ?_
                have N27 := Fr.snoc X27 N26 g_b12
                have A_a2_27 := A_a2_26.other W27 ne_a2_b12
                have A_b15_27 := A_b15_26.other W27 (Ne.symm ne_b12_b15)
                have A_b18_27 := A_b18_26.other W27 (Ne.symm ne_b12_b18)
                have A_b11_27 := A_b11_26.other W27 ne_b11_b12
                have A_b3_27 := A_b3_26.other W27 ne_b3_b12
                have Z27 := Nat.le_trans Z26 (Keep.of_wr W27).1
                have KK27 : Keep h0 h27 [] := KK26.wr W27 (Or.inr sz_b12)
                have A_b12_27 : Ary Z h27 b12 .int (nb ee 0).length (fun i => .int ((upA (rowF (nb (ee.take kk) 0)) ((degF ee kk) 0).toNatClampNeg (1 : Int32)) i)) := A_b12_26.setI W27 (degB hTen (ltA hkl hq)).2
                show Go p e below _ (T27.setTop (mkF m 144 _ []))
                refine gA (q := 145) X27 hx (hb hby d4_144) rfl rfl rfl ?_
                refine gJ (q := 147) X27 hx (hb hby d4_145) rfl rfl ?_
                refine Go.step (ldR X27 hx hZ e27 A_b11_27.ary rfl (j := (1 : Int32)) (by decide) (by decide) (g := (mkF m 147 _ [(.int (1 : Int32)), (.ref b11)])) rfl rfl (hb hby d4_147)) ?_
                show Go p e below _ (T27.setTop (mkF m 148 _ [(.ref b15)]))
                refine gA (q := 149) X27 hx (hb hby d4_148) rfl rfl rfl ?_
                refine gJ (q := 151) X27 hx (hb hby d4_149) rfl rfl ?_
                refine Go.step (S' := T27.setTop (mkF m 152 #[.val (.int (3 : Int32)), .val (.ref a2), .val (.ref b3), .val (.ref b11), .val (.ref a2), .val (.int ee.length.toInt32), .val (.int (Int32.ofNat kk)), .val (.long (enc (0, 1))), .second, .val (.int (0 : Int32)), .val (.int (1 : Int32))] [(.int (1 : Int32)), (.ref b3), (.int (1 : Int32)), (.ref b3), (.ref b15)])) (fun t k => ?_) ?_
                · jvm_step X27.here [X27.here.top, hx, (hb hby d4_151), Value.category]
                  exact k
                show Go p e below _ (T27.setTop (mkF m 152 _ [(.int (1 : Int32)), (.ref b3), (.int (1 : Int32)), (.ref b3), (.ref b15)]))
                refine Go.step (ldI X27 hx hZ e27 A_b3_27 (j := (1 : Int32)) (by decide) (by decide) (g := (mkF m 152 _ [(.int (1 : Int32)), (.ref b3), (.int (1 : Int32)), (.ref b3), (.ref b15)])) rfl rfl (hb hby d4_152)) ?_
                show Go p e below _ (T27.setTop (mkF m 153 _ [(.int ((degF ee kk) 1)), (.int (1 : Int32)), (.ref b3), (.ref b15)]))
                refine Go.step (S' := T27.setTop (mkF m 154 #[.val (.int (3 : Int32)), .val (.ref a2), .val (.ref b3), .val (.ref b11), .val (.ref a2), .val (.int ee.length.toInt32), .val (.int (Int32.ofNat kk)), .val (.long (enc (0, 1))), .second, .val (.int (0 : Int32)), .val (.int (1 : Int32))] [(.int ((degF ee kk) 1)), (.int (1 : Int32)), (.ref b3), (.int ((degF ee kk) 1)), (.ref b15)])) (fun t k => ?_) ?_
                · jvm_step X27.here [X27.here.top, hx, (hb hby d4_153), Value.category]
                  exact k
                show Go p e below _ (T27.setTop (mkF m 154 _ [(.int ((degF ee kk) 1)), (.int (1 : Int32)), (.ref b3), (.int ((degF ee kk) 1)), (.ref b15)]))
                refine gC (q := 155) (v := 1) X27 hx (hb hby d4_154) rfl rfl ?_
                refine Go.step (fun t k => XS.iadd X27.here hx rfl (hb hby d4_155) rfl k) ?_
                show Go p e below _ (T27.setTop (mkF m 156 _ [(.int (((degF ee kk) 1) + (1 : Int32))), (.int (1 : Int32)), (.ref b3), (.int ((degF ee kk) 1)), (.ref b15)]))
                obtain ⟨cl28, Ar28, in28, -⟩ := A_b3_27.hin (j := (1 : Int32)) (by decide) (by decide)
                obtain ⟨T28, h28, X28, e28, W28, st28⟩ := stI X27 hx hZ e27 Ar28 in28 (g := (mkF m 156 #[.val (.int (3 : Int32)), .val (.ref a2), .val (.ref b3), .val (.ref b11), .val (.ref a2), .val (.int ee.length.toInt32), .val (.int (Int32.ofNat kk)), .val (.long (enc (0, 1))), .second, .val (.int (0 : Int32)), .val (.int (1 : Int32))] [(.int (((degF ee kk) 1) + (1 : Int32))), (.int (1 : Int32)), (.ref b3), (.int ((degF ee kk) 1)), (.ref b15)])) rfl rfl (hb hby d4_156)
                refine Go.step st28 ?_
                have N28 := Fr.snoc X28 N27 g_b3
                have A_a2_28 := A_a2_27.other W28 ne_a2_b3
                have A_b15_28 := A_b15_27.other W28 (Ne.symm ne_b3_b15)
                have A_b18_28 := A_b18_27.other W28 (Ne.symm ne_b3_b18)
                have A_b11_28 := A_b11_27.other W28 (Ne.symm ne_b3_b11)
                have A_b12_28 := A_b12_27.other W28 (Ne.symm ne_b3_b12)
                have Z28 := Nat.le_trans Z27 (Keep.of_wr W28).1
                have KK28 : Keep h0 h28 [] := KK27.wr W28 (Or.inr sz_b3)
                have A_b3_28 : Ary Z h28 b3 .int 3 (fun i => .int ((upA (upA (degF ee kk) 0 (((degF ee kk) 0) + (1 : Int32))) 1 (((degF ee kk) 1) + (1 : Int32))) i)) := A_b3_27.setI W28 (by decide)
                show Go p e below _ (T28.setTop (mkF m 157 _ [(.int ((degF ee kk) 1)), (.ref b15)]))
                refine gJ (q := 159) X28 hx (hb hby d4_157) rfl rfl ?_
                obtain ⟨cl29, Ar29, in29, -⟩ := A_b15_28.hin (j := ((degF ee kk) 1)) (degB hTen (ltB hkl hq (by decide))).1 (degB hTen (ltB hkl hq (by decide))).2
                obtain ⟨T29, h29, X29, e29, W29, st29⟩ := stI X28 hx hZ e28 Ar29 in29 (g := (mkF m 159 #[.val (.int (3 : Int32)), .val (.ref a2), .val (.ref b3), .val (.ref b11), .val (.ref a2), .val (.int ee.length.toInt32), .val (.int (Int32.ofNat kk)), .val (.long (enc (0, 1))), .second, .val (.int (0 : Int32)), .val (.int (1 : Int32))] [(.int (0 : Int32)), (.int ((degF ee kk) 1)), (.ref b15)])) rfl rfl (hb hby d4_159)
                refine Go.step st29 ?_
                have N29 := Fr.snoc X29 N28 g_b15
                have A_a2_29 := A_a2_28.other W29 ne_a2_b15
                have A_b18_29 := A_b18_28.other W29 (Ne.symm ne_b15_b18)
                have A_b11_29 := A_b11_28.other W29 ne_b11_b15
                have A_b12_29 := A_b12_28.other W29 ne_b12_b15
                have A_b3_29 := A_b3_28.other W29 ne_b3_b15
                have Z29 := Nat.le_trans Z28 (Keep.of_wr W29).1
                have KK29 : Keep h0 h29 [] := KK28.wr W29 (Or.inr sz_b15)
                have A_b15_29 : Ary Z h29 b15 .int (nb ee 1).length (fun i => .int ((upA (rowF (nb (ee.take kk) 1)) ((degF ee kk) 1).toNatClampNeg (0 : Int32)) i)) := A_b15_28.setI W29 (degB hTen (ltB hkl hq (by decide))).2
                show Go p e below _ (T29.setTop (mkF m 160 _ []))
                refine Go.step (fun t k => XS.iinc X29.here hx rfl (hb hby d4_160) rfl (l' := #[.val (.int (3 : Int32)), .val (.ref a2), .val (.ref b3), .val (.ref b11), .val (.ref a2), .val (.int ee.length.toInt32), .val (.int ((Int32.ofNat kk) + (1 : Int32))), .val (.long (enc (0, 1))), .second, .val (.int (0 : Int32)), .val (.int (1 : Int32))]) rfl k) ?_
                show Go p e below _ (T29.setTop (mkF m 163 _ []))
                refine Go.step (fun t k => XS.goto X29.here hx rfl (pc0 := 163) (pc' := 100) rfl (hb hby d4_163) (by decide) (by decide) k) ?_
                show Go p e below _ (T29.setTop (mkF m 100 _ []))
                show Go p e below _ (T29.setTop (mkF m 100 _ []))
                rw [succ32]
                exact ih _ (by omega) (kk + 1) _ (One.val rfl) _ (One.val rfl) _ _ Two.v _ _ _ rfl (by omega) X29 N29 e29 KK29 Z29 A_a2_29 (A_b12_29.congr fun q _ => congrArg Value.int (rowA hTen hkl hq (by decide) q)) (A_b15_29.congr fun q _ => congrArg Value.int (rowB hTen hkl hq (by decide) (by decide) q)) (A_b18_29.congr fun q _ => congrArg Value.int (by rw [nbC hkl hq (by decide) (by decide)])) A_b11_29 (A_b3_29.congr fun i _ => congrArg Value.int (degS hkl hq (by decide) i))
              · skip
                show Go p e below _ (T25.setTop (mkF m 128 #[.val (.int (3 : Int32)), .val (.ref a2), .val (.ref b3), .val (.ref b11), .val (.ref a2), .val (.int ee.length.toInt32), .val (.int (Int32.ofNat kk)), .val (.long (enc (0, 2))), .second, .val (.int (0 : Int32)), .val (.int (2 : Int32))] []))
                refine gA (q := 129) X25 hx (hb hby d4_128) rfl rfl rfl ?_
                refine gJ (q := 131) X25 hx (hb hby d4_129) rfl rfl ?_
                refine Go.step (ldR X25 hx hZ e25 A_b11_l21.ary rfl (j := (0 : Int32)) (by decide) (by decide) (g := (mkF m 131 _ [(.int (0 : Int32)), (.ref b11)])) rfl rfl (hb hby d4_131)) ?_
                show Go p e below _ (T25.setTop (mkF m 132 _ [(.ref b12)]))
                refine gA (q := 133) X25 hx (hb hby d4_132) rfl rfl rfl ?_
                refine gJ (q := 135) X25 hx (hb hby d4_133) rfl rfl ?_
                refine Go.step (S' := T25.setTop (mkF m 136 #[.val (.int (3 : Int32)), .val (.ref a2), .val (.ref b3), .val (.ref b11), .val (.ref a2), .val (.int ee.length.toInt32), .val (.int (Int32.ofNat kk)), .val (.long (enc (0, 2))), .second, .val (.int (0 : Int32)), .val (.int (2 : Int32))] [(.int (0 : Int32)), (.ref b3), (.int (0 : Int32)), (.ref b3), (.ref b12)])) (fun t k => ?_) ?_
                · jvm_step X25.here [X25.here.top, hx, (hb hby d4_135), Value.category]
                  exact k
                show Go p e below _ (T25.setTop (mkF m 136 _ [(.int (0 : Int32)), (.ref b3), (.int (0 : Int32)), (.ref b3), (.ref b12)]))
                refine Go.step (ldI X25 hx hZ e25 A_b3_l21 (j := (0 : Int32)) (by decide) (by decide) (g := (mkF m 136 _ [(.int (0 : Int32)), (.ref b3), (.int (0 : Int32)), (.ref b3), (.ref b12)])) rfl rfl (hb hby d4_136)) ?_
                show Go p e below _ (T25.setTop (mkF m 137 _ [(.int ((degF ee kk) 0)), (.int (0 : Int32)), (.ref b3), (.ref b12)]))
                refine Go.step (S' := T25.setTop (mkF m 138 #[.val (.int (3 : Int32)), .val (.ref a2), .val (.ref b3), .val (.ref b11), .val (.ref a2), .val (.int ee.length.toInt32), .val (.int (Int32.ofNat kk)), .val (.long (enc (0, 2))), .second, .val (.int (0 : Int32)), .val (.int (2 : Int32))] [(.int ((degF ee kk) 0)), (.int (0 : Int32)), (.ref b3), (.int ((degF ee kk) 0)), (.ref b12)])) (fun t k => ?_) ?_
                · jvm_step X25.here [X25.here.top, hx, (hb hby d4_137), Value.category]
                  exact k
                show Go p e below _ (T25.setTop (mkF m 138 _ [(.int ((degF ee kk) 0)), (.int (0 : Int32)), (.ref b3), (.int ((degF ee kk) 0)), (.ref b12)]))
                refine gC (q := 139) (v := 1) X25 hx (hb hby d4_138) rfl rfl ?_
                refine Go.step (fun t k => XS.iadd X25.here hx rfl (hb hby d4_139) rfl k) ?_
                show Go p e below _ (T25.setTop (mkF m 140 _ [(.int (((degF ee kk) 0) + (1 : Int32))), (.int (0 : Int32)), (.ref b3), (.int ((degF ee kk) 0)), (.ref b12)]))
                obtain ⟨cl30, Ar30, in30, -⟩ := A_b3_l21.hin (j := (0 : Int32)) (by decide) (by decide)
                obtain ⟨T30, h30, X30, e30, W30, st30⟩ := stI X25 hx hZ e25 Ar30 in30 (g := (mkF m 140 #[.val (.int (3 : Int32)), .val (.ref a2), .val (.ref b3), .val (.ref b11), .val (.ref a2), .val (.int ee.length.toInt32), .val (.int (Int32.ofNat kk)), .val (.long (enc (0, 2))), .second, .val (.int (0 : Int32)), .val (.int (2 : Int32))] [(.int (((degF ee kk) 0) + (1 : Int32))), (.int (0 : Int32)), (.ref b3), (.int ((degF ee kk) 0)), (.ref b12)])) rfl rfl (hb hby d4_140)
                refine Go.step st30 ?_
                have N30 := Fr.snoc X30 N25 g_b3
                have A_a2_30 := A_a2_l21.other W30 ne_a2_b3
                have A_b12_30 := A_b12_l21.other W30 (Ne.symm ne_b3_b12)
                have A_b15_30 := A_b15_l21.other W30 (Ne.symm ne_b3_b15)
                have A_b18_30 := A_b18_l21.other W30 (Ne.symm ne_b3_b18)
                have A_b11_30 := A_b11_l21.other W30 (Ne.symm ne_b3_b11)
                have Z30 := Nat.le_trans Zl21 (Keep.of_wr W30).1
                have KK30 : Keep h0 h30 [] := KKl21.wr W30 (Or.inr sz_b3)
                have A_b3_30 : Ary Z h30 b3 .int 3 (fun i => .int ((upA (degF ee kk) 0 (((degF ee kk) 0) + (1 : Int32))) i)) := A_b3_l21.setI W30 (by decide)
                show Go p e below _ (T30.setTop (mkF m 141 _ [(.int ((degF ee kk) 0)), (.ref b12)]))
                refine gJ (q := 143) X30 hx (hb hby d4_141) rfl rfl ?_
                obtain ⟨cl31, Ar31, in31, -⟩ := A_b12_30.hin (j := ((degF ee kk) 0)) (degB hTen (ltA hkl hq)).1 (degB hTen (ltA hkl hq)).2
                obtain ⟨T31, h31, X31, e31, W31, st31⟩ := stI X30 hx hZ e30 Ar31 in31 (g := (mkF m 143 #[.val (.int (3 : Int32)), .val (.ref a2), .val (.ref b3), .val (.ref b11), .val (.ref a2), .val (.int ee.length.toInt32), .val (.int (Int32.ofNat kk)), .val (.long (enc (0, 2))), .second, .val (.int (0 : Int32)), .val (.int (2 : Int32))] [(.int (2 : Int32)), (.int ((degF ee kk) 0)), (.ref b12)])) rfl rfl (hb hby d4_143)
                refine Go.step st31 ?_
                have N31 := Fr.snoc X31 N30 g_b12
                have A_a2_31 := A_a2_30.other W31 ne_a2_b12
                have A_b15_31 := A_b15_30.other W31 (Ne.symm ne_b12_b15)
                have A_b18_31 := A_b18_30.other W31 (Ne.symm ne_b12_b18)
                have A_b11_31 := A_b11_30.other W31 ne_b11_b12
                have A_b3_31 := A_b3_30.other W31 ne_b3_b12
                have Z31 := Nat.le_trans Z30 (Keep.of_wr W31).1
                have KK31 : Keep h0 h31 [] := KK30.wr W31 (Or.inr sz_b12)
                have A_b12_31 : Ary Z h31 b12 .int (nb ee 0).length (fun i => .int ((upA (rowF (nb (ee.take kk) 0)) ((degF ee kk) 0).toNatClampNeg (2 : Int32)) i)) := A_b12_30.setI W31 (degB hTen (ltA hkl hq)).2
                show Go p e below _ (T31.setTop (mkF m 144 _ []))
                refine gA (q := 145) X31 hx (hb hby d4_144) rfl rfl rfl ?_
                refine gJ (q := 147) X31 hx (hb hby d4_145) rfl rfl ?_
                refine Go.step (ldR X31 hx hZ e31 A_b11_31.ary rfl (j := (2 : Int32)) (by decide) (by decide) (g := (mkF m 147 _ [(.int (2 : Int32)), (.ref b11)])) rfl rfl (hb hby d4_147)) ?_
                show Go p e below _ (T31.setTop (mkF m 148 _ [(.ref b18)]))
                refine gA (q := 149) X31 hx (hb hby d4_148) rfl rfl rfl ?_
                refine gJ (q := 151) X31 hx (hb hby d4_149) rfl rfl ?_
                refine Go.step (S' := T31.setTop (mkF m 152 #[.val (.int (3 : Int32)), .val (.ref a2), .val (.ref b3), .val (.ref b11), .val (.ref a2), .val (.int ee.length.toInt32), .val (.int (Int32.ofNat kk)), .val (.long (enc (0, 2))), .second, .val (.int (0 : Int32)), .val (.int (2 : Int32))] [(.int (2 : Int32)), (.ref b3), (.int (2 : Int32)), (.ref b3), (.ref b18)])) (fun t k => ?_) ?_
                · jvm_step X31.here [X31.here.top, hx, (hb hby d4_151), Value.category]
                  exact k
                show Go p e below _ (T31.setTop (mkF m 152 _ [(.int (2 : Int32)), (.ref b3), (.int (2 : Int32)), (.ref b3), (.ref b18)]))
                refine Go.step (ldI X31 hx hZ e31 A_b3_31 (j := (2 : Int32)) (by decide) (by decide) (g := (mkF m 152 _ [(.int (2 : Int32)), (.ref b3), (.int (2 : Int32)), (.ref b3), (.ref b18)])) rfl rfl (hb hby d4_152)) ?_
                show Go p e below _ (T31.setTop (mkF m 153 _ [(.int ((degF ee kk) 2)), (.int (2 : Int32)), (.ref b3), (.ref b18)]))
                refine Go.step (S' := T31.setTop (mkF m 154 #[.val (.int (3 : Int32)), .val (.ref a2), .val (.ref b3), .val (.ref b11), .val (.ref a2), .val (.int ee.length.toInt32), .val (.int (Int32.ofNat kk)), .val (.long (enc (0, 2))), .second, .val (.int (0 : Int32)), .val (.int (2 : Int32))] [(.int ((degF ee kk) 2)), (.int (2 : Int32)), (.ref b3), (.int ((degF ee kk) 2)), (.ref b18)])) (fun t k => ?_) ?_
                · jvm_step X31.here [X31.here.top, hx, (hb hby d4_153), Value.category]
                  exact k
                show Go p e below _ (T31.setTop (mkF m 154 _ [(.int ((degF ee kk) 2)), (.int (2 : Int32)), (.ref b3), (.int ((degF ee kk) 2)), (.ref b18)]))
                refine gC (q := 155) (v := 1) X31 hx (hb hby d4_154) rfl rfl ?_
                refine Go.step (fun t k => XS.iadd X31.here hx rfl (hb hby d4_155) rfl k) ?_
                show Go p e below _ (T31.setTop (mkF m 156 _ [(.int (((degF ee kk) 2) + (1 : Int32))), (.int (2 : Int32)), (.ref b3), (.int ((degF ee kk) 2)), (.ref b18)]))
                obtain ⟨cl32, Ar32, in32, -⟩ := A_b3_31.hin (j := (2 : Int32)) (by decide) (by decide)
                obtain ⟨T32, h32, X32, e32, W32, st32⟩ := stI X31 hx hZ e31 Ar32 in32 (g := (mkF m 156 #[.val (.int (3 : Int32)), .val (.ref a2), .val (.ref b3), .val (.ref b11), .val (.ref a2), .val (.int ee.length.toInt32), .val (.int (Int32.ofNat kk)), .val (.long (enc (0, 2))), .second, .val (.int (0 : Int32)), .val (.int (2 : Int32))] [(.int (((degF ee kk) 2) + (1 : Int32))), (.int (2 : Int32)), (.ref b3), (.int ((degF ee kk) 2)), (.ref b18)])) rfl rfl (hb hby d4_156)
                refine Go.step st32 ?_
                have N32 := Fr.snoc X32 N31 g_b3
                have A_a2_32 := A_a2_31.other W32 ne_a2_b3
                have A_b15_32 := A_b15_31.other W32 (Ne.symm ne_b3_b15)
                have A_b18_32 := A_b18_31.other W32 (Ne.symm ne_b3_b18)
                have A_b11_32 := A_b11_31.other W32 (Ne.symm ne_b3_b11)
                have A_b12_32 := A_b12_31.other W32 (Ne.symm ne_b3_b12)
                have Z32 := Nat.le_trans Z31 (Keep.of_wr W32).1
                have KK32 : Keep h0 h32 [] := KK31.wr W32 (Or.inr sz_b3)
                have A_b3_32 : Ary Z h32 b3 .int 3 (fun i => .int ((upA (upA (degF ee kk) 0 (((degF ee kk) 0) + (1 : Int32))) 2 (((degF ee kk) 2) + (1 : Int32))) i)) := A_b3_31.setI W32 (by decide)
                show Go p e below _ (T32.setTop (mkF m 157 _ [(.int ((degF ee kk) 2)), (.ref b18)]))
                refine gJ (q := 159) X32 hx (hb hby d4_157) rfl rfl ?_
                obtain ⟨cl33, Ar33, in33, -⟩ := A_b18_32.hin (j := ((degF ee kk) 2)) (degB hTen (ltB hkl hq (by decide))).1 (degB hTen (ltB hkl hq (by decide))).2
                obtain ⟨T33, h33, X33, e33, W33, st33⟩ := stI X32 hx hZ e32 Ar33 in33 (g := (mkF m 159 #[.val (.int (3 : Int32)), .val (.ref a2), .val (.ref b3), .val (.ref b11), .val (.ref a2), .val (.int ee.length.toInt32), .val (.int (Int32.ofNat kk)), .val (.long (enc (0, 2))), .second, .val (.int (0 : Int32)), .val (.int (2 : Int32))] [(.int (0 : Int32)), (.int ((degF ee kk) 2)), (.ref b18)])) rfl rfl (hb hby d4_159)
                refine Go.step st33 ?_
                have N33 := Fr.snoc X33 N32 g_b18
                have A_a2_33 := A_a2_32.other W33 ne_a2_b18
                have A_b15_33 := A_b15_32.other W33 ne_b15_b18
                have A_b11_33 := A_b11_32.other W33 ne_b11_b18
                have A_b12_33 := A_b12_32.other W33 ne_b12_b18
                have A_b3_33 := A_b3_32.other W33 ne_b3_b18
                have Z33 := Nat.le_trans Z32 (Keep.of_wr W33).1
                have KK33 : Keep h0 h33 [] := KK32.wr W33 (Or.inr sz_b18)
                have A_b18_33 : Ary Z h33 b18 .int (nb ee 2).length (fun i => .int ((upA (rowF (nb (ee.take kk) 2)) ((degF ee kk) 2).toNatClampNeg (0 : Int32)) i)) := A_b18_32.setI W33 (degB hTen (ltB hkl hq (by decide))).2
                show Go p e below _ (T33.setTop (mkF m 160 _ []))
                refine Go.step (fun t k => XS.iinc X33.here hx rfl (hb hby d4_160) rfl (l' := #[.val (.int (3 : Int32)), .val (.ref a2), .val (.ref b3), .val (.ref b11), .val (.ref a2), .val (.int ee.length.toInt32), .val (.int ((Int32.ofNat kk) + (1 : Int32))), .val (.long (enc (0, 2))), .second, .val (.int (0 : Int32)), .val (.int (2 : Int32))]) rfl k) ?_
                show Go p e below _ (T33.setTop (mkF m 163 _ []))
                refine Go.step (fun t k => XS.goto X33.here hx rfl (pc0 := 163) (pc' := 100) rfl (hb hby d4_163) (by decide) (by decide) k) ?_
                show Go p e below _ (T33.setTop (mkF m 100 _ []))
                show Go p e below _ (T33.setTop (mkF m 100 _ []))
                rw [succ32]
                exact ih _ (by omega) (kk + 1) _ (One.val rfl) _ (One.val rfl) _ _ Two.v _ _ _ rfl (by omega) X33 N33 e33 KK33 Z33 A_a2_33 (A_b12_33.congr fun q _ => congrArg Value.int (rowA hTen hkl hq (by decide) q)) (A_b15_33.congr fun q _ => congrArg Value.int (by rw [nbC hkl hq (by decide) (by decide)])) (A_b18_33.congr fun q _ => congrArg Value.int (rowB hTen hkl hq (by decide) (by decide) q)) A_b11_33 (A_b3_33.congr fun i _ => congrArg Value.int (degS hkl hq (by decide) i))
              · skip
                show Go p e below _ (T25.setTop (mkF m 128 #[.val (.int (3 : Int32)), .val (.ref a2), .val (.ref b3), .val (.ref b11), .val (.ref a2), .val (.int ee.length.toInt32), .val (.int (Int32.ofNat kk)), .val (.long (enc (1, 2))), .second, .val (.int (1 : Int32)), .val (.int (2 : Int32))] []))
                refine gA (q := 129) X25 hx (hb hby d4_128) rfl rfl rfl ?_
                refine gJ (q := 131) X25 hx (hb hby d4_129) rfl rfl ?_
                refine Go.step (ldR X25 hx hZ e25 A_b11_l21.ary rfl (j := (1 : Int32)) (by decide) (by decide) (g := (mkF m 131 _ [(.int (1 : Int32)), (.ref b11)])) rfl rfl (hb hby d4_131)) ?_
                show Go p e below _ (T25.setTop (mkF m 132 _ [(.ref b15)]))
                refine gA (q := 133) X25 hx (hb hby d4_132) rfl rfl rfl ?_
                refine gJ (q := 135) X25 hx (hb hby d4_133) rfl rfl ?_
                refine Go.step (S' := T25.setTop (mkF m 136 #[.val (.int (3 : Int32)), .val (.ref a2), .val (.ref b3), .val (.ref b11), .val (.ref a2), .val (.int ee.length.toInt32), .val (.int (Int32.ofNat kk)), .val (.long (enc (1, 2))), .second, .val (.int (1 : Int32)), .val (.int (2 : Int32))] [(.int (1 : Int32)), (.ref b3), (.int (1 : Int32)), (.ref b3), (.ref b15)])) (fun t k => ?_) ?_
                · jvm_step X25.here [X25.here.top, hx, (hb hby d4_135), Value.category]
                  exact k
                show Go p e below _ (T25.setTop (mkF m 136 _ [(.int (1 : Int32)), (.ref b3), (.int (1 : Int32)), (.ref b3), (.ref b15)]))
                refine Go.step (ldI X25 hx hZ e25 A_b3_l21 (j := (1 : Int32)) (by decide) (by decide) (g := (mkF m 136 _ [(.int (1 : Int32)), (.ref b3), (.int (1 : Int32)), (.ref b3), (.ref b15)])) rfl rfl (hb hby d4_136)) ?_
                show Go p e below _ (T25.setTop (mkF m 137 _ [(.int ((degF ee kk) 1)), (.int (1 : Int32)), (.ref b3), (.ref b15)]))
                refine Go.step (S' := T25.setTop (mkF m 138 #[.val (.int (3 : Int32)), .val (.ref a2), .val (.ref b3), .val (.ref b11), .val (.ref a2), .val (.int ee.length.toInt32), .val (.int (Int32.ofNat kk)), .val (.long (enc (1, 2))), .second, .val (.int (1 : Int32)), .val (.int (2 : Int32))] [(.int ((degF ee kk) 1)), (.int (1 : Int32)), (.ref b3), (.int ((degF ee kk) 1)), (.ref b15)])) (fun t k => ?_) ?_
                · jvm_step X25.here [X25.here.top, hx, (hb hby d4_137), Value.category]
                  exact k
                show Go p e below _ (T25.setTop (mkF m 138 _ [(.int ((degF ee kk) 1)), (.int (1 : Int32)), (.ref b3), (.int ((degF ee kk) 1)), (.ref b15)]))
                refine gC (q := 139) (v := 1) X25 hx (hb hby d4_138) rfl rfl ?_
                refine Go.step (fun t k => XS.iadd X25.here hx rfl (hb hby d4_139) rfl k) ?_
                show Go p e below _ (T25.setTop (mkF m 140 _ [(.int (((degF ee kk) 1) + (1 : Int32))), (.int (1 : Int32)), (.ref b3), (.int ((degF ee kk) 1)), (.ref b15)]))
                obtain ⟨cl34, Ar34, in34, -⟩ := A_b3_l21.hin (j := (1 : Int32)) (by decide) (by decide)
                obtain ⟨T34, h34, X34, e34, W34, st34⟩ := stI X25 hx hZ e25 Ar34 in34 (g := (mkF m 140 #[.val (.int (3 : Int32)), .val (.ref a2), .val (.ref b3), .val (.ref b11), .val (.ref a2), .val (.int ee.length.toInt32), .val (.int (Int32.ofNat kk)), .val (.long (enc (1, 2))), .second, .val (.int (1 : Int32)), .val (.int (2 : Int32))] [(.int (((degF ee kk) 1) + (1 : Int32))), (.int (1 : Int32)), (.ref b3), (.int ((degF ee kk) 1)), (.ref b15)])) rfl rfl (hb hby d4_140)
                refine Go.step st34 ?_
                have N34 := Fr.snoc X34 N25 g_b3
                have A_a2_34 := A_a2_l21.other W34 ne_a2_b3
                have A_b12_34 := A_b12_l21.other W34 (Ne.symm ne_b3_b12)
                have A_b15_34 := A_b15_l21.other W34 (Ne.symm ne_b3_b15)
                have A_b18_34 := A_b18_l21.other W34 (Ne.symm ne_b3_b18)
                have A_b11_34 := A_b11_l21.other W34 (Ne.symm ne_b3_b11)
                have Z34 := Nat.le_trans Zl21 (Keep.of_wr W34).1
                have KK34 : Keep h0 h34 [] := KKl21.wr W34 (Or.inr sz_b3)
                have A_b3_34 : Ary Z h34 b3 .int 3 (fun i => .int ((upA (degF ee kk) 1 (((degF ee kk) 1) + (1 : Int32))) i)) := A_b3_l21.setI W34 (by decide)
                show Go p e below _ (T34.setTop (mkF m 141 _ [(.int ((degF ee kk) 1)), (.ref b15)]))
                refine gJ (q := 143) X34 hx (hb hby d4_141) rfl rfl ?_
                obtain ⟨cl35, Ar35, in35, -⟩ := A_b15_34.hin (j := ((degF ee kk) 1)) (degB hTen (ltA hkl hq)).1 (degB hTen (ltA hkl hq)).2
                obtain ⟨T35, h35, X35, e35, W35, st35⟩ := stI X34 hx hZ e34 Ar35 in35 (g := (mkF m 143 #[.val (.int (3 : Int32)), .val (.ref a2), .val (.ref b3), .val (.ref b11), .val (.ref a2), .val (.int ee.length.toInt32), .val (.int (Int32.ofNat kk)), .val (.long (enc (1, 2))), .second, .val (.int (1 : Int32)), .val (.int (2 : Int32))] [(.int (2 : Int32)), (.int ((degF ee kk) 1)), (.ref b15)])) rfl rfl (hb hby d4_143)
                refine Go.step st35 ?_
                have N35 := Fr.snoc X35 N34 g_b15
                have A_a2_35 := A_a2_34.other W35 ne_a2_b15
                have A_b12_35 := A_b12_34.other W35 ne_b12_b15
                have A_b18_35 := A_b18_34.other W35 (Ne.symm ne_b15_b18)
                have A_b11_35 := A_b11_34.other W35 ne_b11_b15
                have A_b3_35 := A_b3_34.other W35 ne_b3_b15
                have Z35 := Nat.le_trans Z34 (Keep.of_wr W35).1
                have KK35 : Keep h0 h35 [] := KK34.wr W35 (Or.inr sz_b15)
                have A_b15_35 : Ary Z h35 b15 .int (nb ee 1).length (fun i => .int ((upA (rowF (nb (ee.take kk) 1)) ((degF ee kk) 1).toNatClampNeg (2 : Int32)) i)) := A_b15_34.setI W35 (degB hTen (ltA hkl hq)).2
                show Go p e below _ (T35.setTop (mkF m 144 _ []))
                refine gA (q := 145) X35 hx (hb hby d4_144) rfl rfl rfl ?_
                refine gJ (q := 147) X35 hx (hb hby d4_145) rfl rfl ?_
                refine Go.step (ldR X35 hx hZ e35 A_b11_35.ary rfl (j := (2 : Int32)) (by decide) (by decide) (g := (mkF m 147 _ [(.int (2 : Int32)), (.ref b11)])) rfl rfl (hb hby d4_147)) ?_
                show Go p e below _ (T35.setTop (mkF m 148 _ [(.ref b18)]))
                refine gA (q := 149) X35 hx (hb hby d4_148) rfl rfl rfl ?_
                refine gJ (q := 151) X35 hx (hb hby d4_149) rfl rfl ?_
                refine Go.step (S' := T35.setTop (mkF m 152 #[.val (.int (3 : Int32)), .val (.ref a2), .val (.ref b3), .val (.ref b11), .val (.ref a2), .val (.int ee.length.toInt32), .val (.int (Int32.ofNat kk)), .val (.long (enc (1, 2))), .second, .val (.int (1 : Int32)), .val (.int (2 : Int32))] [(.int (2 : Int32)), (.ref b3), (.int (2 : Int32)), (.ref b3), (.ref b18)])) (fun t k => ?_) ?_
                · jvm_step X35.here [X35.here.top, hx, (hb hby d4_151), Value.category]
                  exact k
                show Go p e below _ (T35.setTop (mkF m 152 _ [(.int (2 : Int32)), (.ref b3), (.int (2 : Int32)), (.ref b3), (.ref b18)]))
                refine Go.step (ldI X35 hx hZ e35 A_b3_35 (j := (2 : Int32)) (by decide) (by decide) (g := (mkF m 152 _ [(.int (2 : Int32)), (.ref b3), (.int (2 : Int32)), (.ref b3), (.ref b18)])) rfl rfl (hb hby d4_152)) ?_
                show Go p e below _ (T35.setTop (mkF m 153 _ [(.int ((degF ee kk) 2)), (.int (2 : Int32)), (.ref b3), (.ref b18)]))
                refine Go.step (S' := T35.setTop (mkF m 154 #[.val (.int (3 : Int32)), .val (.ref a2), .val (.ref b3), .val (.ref b11), .val (.ref a2), .val (.int ee.length.toInt32), .val (.int (Int32.ofNat kk)), .val (.long (enc (1, 2))), .second, .val (.int (1 : Int32)), .val (.int (2 : Int32))] [(.int ((degF ee kk) 2)), (.int (2 : Int32)), (.ref b3), (.int ((degF ee kk) 2)), (.ref b18)])) (fun t k => ?_) ?_
                · jvm_step X35.here [X35.here.top, hx, (hb hby d4_153), Value.category]
                  exact k
                show Go p e below _ (T35.setTop (mkF m 154 _ [(.int ((degF ee kk) 2)), (.int (2 : Int32)), (.ref b3), (.int ((degF ee kk) 2)), (.ref b18)]))
                refine gC (q := 155) (v := 1) X35 hx (hb hby d4_154) rfl rfl ?_
                refine Go.step (fun t k => XS.iadd X35.here hx rfl (hb hby d4_155) rfl k) ?_
                show Go p e below _ (T35.setTop (mkF m 156 _ [(.int (((degF ee kk) 2) + (1 : Int32))), (.int (2 : Int32)), (.ref b3), (.int ((degF ee kk) 2)), (.ref b18)]))
                obtain ⟨cl36, Ar36, in36, -⟩ := A_b3_35.hin (j := (2 : Int32)) (by decide) (by decide)
                obtain ⟨T36, h36, X36, e36, W36, st36⟩ := stI X35 hx hZ e35 Ar36 in36 (g := (mkF m 156 #[.val (.int (3 : Int32)), .val (.ref a2), .val (.ref b3), .val (.ref b11), .val (.ref a2), .val (.int ee.length.toInt32), .val (.int (Int32.ofNat kk)), .val (.long (enc (1, 2))), .second, .val (.int (1 : Int32)), .val (.int (2 : Int32))] [(.int (((degF ee kk) 2) + (1 : Int32))), (.int (2 : Int32)), (.ref b3), (.int ((degF ee kk) 2)), (.ref b18)])) rfl rfl (hb hby d4_156)
                refine Go.step st36 ?_
                have N36 := Fr.snoc X36 N35 g_b3
                have A_a2_36 := A_a2_35.other W36 ne_a2_b3
                have A_b12_36 := A_b12_35.other W36 (Ne.symm ne_b3_b12)
                have A_b18_36 := A_b18_35.other W36 (Ne.symm ne_b3_b18)
                have A_b11_36 := A_b11_35.other W36 (Ne.symm ne_b3_b11)
                have A_b15_36 := A_b15_35.other W36 (Ne.symm ne_b3_b15)
                have Z36 := Nat.le_trans Z35 (Keep.of_wr W36).1
                have KK36 : Keep h0 h36 [] := KK35.wr W36 (Or.inr sz_b3)
                have A_b3_36 : Ary Z h36 b3 .int 3 (fun i => .int ((upA (upA (degF ee kk) 1 (((degF ee kk) 1) + (1 : Int32))) 2 (((degF ee kk) 2) + (1 : Int32))) i)) := A_b3_35.setI W36 (by decide)
                show Go p e below _ (T36.setTop (mkF m 157 _ [(.int ((degF ee kk) 2)), (.ref b18)]))
                refine gJ (q := 159) X36 hx (hb hby d4_157) rfl rfl ?_
                obtain ⟨cl37, Ar37, in37, -⟩ := A_b18_36.hin (j := ((degF ee kk) 2)) (degB hTen (ltB hkl hq (by decide))).1 (degB hTen (ltB hkl hq (by decide))).2
                obtain ⟨T37, h37, X37, e37, W37, st37⟩ := stI X36 hx hZ e36 Ar37 in37 (g := (mkF m 159 #[.val (.int (3 : Int32)), .val (.ref a2), .val (.ref b3), .val (.ref b11), .val (.ref a2), .val (.int ee.length.toInt32), .val (.int (Int32.ofNat kk)), .val (.long (enc (1, 2))), .second, .val (.int (1 : Int32)), .val (.int (2 : Int32))] [(.int (1 : Int32)), (.int ((degF ee kk) 2)), (.ref b18)])) rfl rfl (hb hby d4_159)
                refine Go.step st37 ?_
                have N37 := Fr.snoc X37 N36 g_b18
                have A_a2_37 := A_a2_36.other W37 ne_a2_b18
                have A_b12_37 := A_b12_36.other W37 ne_b12_b18
                have A_b11_37 := A_b11_36.other W37 ne_b11_b18
                have A_b15_37 := A_b15_36.other W37 ne_b15_b18
                have A_b3_37 := A_b3_36.other W37 ne_b3_b18
                have Z37 := Nat.le_trans Z36 (Keep.of_wr W37).1
                have KK37 : Keep h0 h37 [] := KK36.wr W37 (Or.inr sz_b18)
                have A_b18_37 : Ary Z h37 b18 .int (nb ee 2).length (fun i => .int ((upA (rowF (nb (ee.take kk) 2)) ((degF ee kk) 2).toNatClampNeg (1 : Int32)) i)) := A_b18_36.setI W37 (degB hTen (ltB hkl hq (by decide))).2
                show Go p e below _ (T37.setTop (mkF m 160 _ []))
                refine Go.step (fun t k => XS.iinc X37.here hx rfl (hb hby d4_160) rfl (l' := #[.val (.int (3 : Int32)), .val (.ref a2), .val (.ref b3), .val (.ref b11), .val (.ref a2), .val (.int ee.length.toInt32), .val (.int ((Int32.ofNat kk) + (1 : Int32))), .val (.long (enc (1, 2))), .second, .val (.int (1 : Int32)), .val (.int (2 : Int32))]) rfl k) ?_
                show Go p e below _ (T37.setTop (mkF m 163 _ []))
                refine Go.step (fun t k => XS.goto X37.here hx rfl (pc0 := 163) (pc' := 100) rfl (hb hby d4_163) (by decide) (by decide) k) ?_
                show Go p e below _ (T37.setTop (mkF m 100 _ []))
                show Go p e below _ (T37.setTop (mkF m 100 _ []))
                rw [succ32]
                exact ih _ (by omega) (kk + 1) _ (One.val rfl) _ (One.val rfl) _ _ Two.v _ _ _ rfl (by omega) X37 N37 e37 KK37 Z37 A_a2_37 (A_b12_37.congr fun q _ => congrArg Value.int (by rw [nbC hkl hq (by decide) (by decide)])) (A_b15_37.congr fun q _ => congrArg Value.int (rowA hTen hkl hq (by decide) q)) (A_b18_37.congr fun q _ => congrArg Value.int (rowB hTen hkl hq (by decide) (by decide) q)) A_b11_37 (A_b3_37.congr fun i _ => congrArg Value.int (degS hkl hq (by decide) i))
            · refine Go.step (fun t k => XS.icmpYes Xl21.here hx rfl (pc0 := 104) (pc' := 166) rfl (hb hby d4_104) rfl (flt hc22).2.1 (by decide) (by decide) k) ?_
              show Go p e below _ (Tl21.setTop (mkF m 166 _ []))
              obtain rfl : kk = ee.length := j_ge hTen hk hc22
              have A_b12_l21e : Ary Z hl21 b12 .int (nb ee 0).length (fun i => .int ((rowF (nb ee 0)) i)) := by have q := A_b12_l21; rw [List.take_length] at q; exact q
              have A_b15_l21e : Ary Z hl21 b15 .int (nb ee 1).length (fun i => .int ((rowF (nb ee 1)) i)) := by have q := A_b15_l21; rw [List.take_length] at q; exact q
              have A_b18_l21e : Ary Z hl21 b18 .int (nb ee 2).length (fun i => .int ((rowF (nb ee 2)) i)) := by have q := A_b18_l21; rw [List.take_length] at q; exact q
              show Go p e below _ (Tl21.setTop (mkF m 166 _ []))
              refine gA (q := 167) Xl21 hx (hb hby d4_166) rfl rfl rfl ?_
              refine retGR Xl21 hx Bd.notSynchronized Bd.returns rfl rfl (hb hby d4_167) ?_ (by decide) (by decide)
              show Q4_3 Z a2 ee h0 n0 _ Tl21.heap _
              rw [el21]
              exact ⟨b11, b12, b15, b18, rfl, Nl21, KKl21, sz_b11, sz_b12, sz_b15, sz_b18, A_b12_l21e, A_b15_l21e, A_b18_l21e, A_b11_l21⟩
        exact LOOP100 _ 0 _ One.u _ One.u _ _ Two.u _ _ _ rfl (Nat.zero_le _) X20 N20 e20 KK20 Z20 A_a2_20 (A_b12_20.congr fun q _ => congrArg Value.int (row0 ee 0 q)) (A_b15_20.congr fun q _ => congrArg Value.int (row0 ee 1 q)) (A_b18_20.congr fun q _ => congrArg Value.int (row0 ee 2 q)) A_b11_20 (A_b3_20.congr fun i hi => congrArg Value.int (by rw [← deg0]; (rcases i with _ | _ | _ | i) <;> first | rfl | (exfalso; omega)))
  exact LOOP13 _ 0 _ _ Two.u _ _ _ rfl (Nat.zero_le _) X3 N0 e3 KK3 Z3 A_a2_3 (A_b3_3.congr fun i _ => congrArg Value.int (deg0 ee i)) Ex3
theorem ef_4_4 (m : MethodId) (a2 : Addr) : entryFrame m #[(.int (4 : Int32)), (.ref a2)] 11 = mkF m 0 #[.val (.int (4 : Int32)), .val (.ref a2), .unset, .unset, .unset, .unset, .unset, .unset, .unset, .unset, .unset] [] := by first | (simp [entryFrame, mkF, argsToLocals, Value.category]; done) | rfl
def Q4_4 (Z : State) (a2 : Addr) (ee : List (Nat × Nat)) (h0 : Heap) (n0 : Nat) (v : Option Value) (h : Heap) (L : List Loc) : Prop := ∃ (b11 : Addr) (b12 : Addr) (b15 : Addr) (b18 : Addr) (b21 : Addr), v = some (.ref b11) ∧ Fr n0 L ∧ Keep h0 h [] ∧ h0.size ≤ b11 ∧ h0.size ≤ b12 ∧ h0.size ≤ b15 ∧ h0.size ≤ b18 ∧ h0.size ≤ b21 ∧ Ary Z h b12 .int (nb ee 0).length (fun i => .int ((rowF (nb ee 0)) i)) ∧ Ary Z h b15 .int (nb ee 1).length (fun i => .int ((rowF (nb ee 1)) i)) ∧ Ary Z h b18 .int (nb ee 2).length (fun i => .int ((rowF (nb ee 2)) i)) ∧ Ary Z h b21 .int (nb ee 3).length (fun i => .int ((rowF (nb ee 3)) i)) ∧ RAry Z h b11 (.array .int) "[I" 4 (upA (upA (upA (upA (fun _ => .null) 0 (.ref b12)) 1 (.ref b15)) 2 (.ref b18)) 3 (.ref b21))
set_option maxRecDepth 65536 in
set_option maxHeartbeats 40000000 in
theorem rm4_4 (l : Launch) (Z : State) (a0 : Array Value) (hw : ∀ d ∈ tables_1, d.before a0 Z = true) (ws : List Jvm.Cond) (a2 : Addr) (ee : List (Nat × Nat)) (h0 : Heap) (n0 : Nat) (Z0 : n0 ≤ h0.size) (hTen : ee.length ≤ 10) (hE : ∀ p ∈ ee, p = (0, 1) ∨ p = (0, 2) ∨ p = (0, 3) ∨ p = (1, 2) ∨ p = (1, 3) ∨ p = (2, 3)) (A_a2 : Ary Z h0 a2 .long ee.length (fun i => .long ((encF ee) i))) :
    MetFree l (⟨"com/example/hertzbid/hertzbid/ConflictPairs", "neighbours", "(I[J)[[I"⟩ : MethodName) (head1 (Jvm.Cond.code (⟨"com/example/hertzbid/hertzbid/ConflictPairs", "neighbours", "(I[J)[[I"⟩ : MethodName) prog_18_method_7_code 11 (some (.array (.array .int))) :: ws) ({ frames := 1, cells := 6, slots := 48, locals := 14 } : Room)) (fun a U => a = #[(.int (4 : Int32)), (.ref a2)] ∧ Z.Warmed39 U.vm ∧ U.heap = h0) (fun _ _ _ _ _ => True) (fun _ U o U' => ∃ v L, o = .returned v ∧ Q4_4 Z a2 ee h0 n0 v U'.heap L ∧ FrameEnd U o U' L ({ frames := 1, cells := 6, slots := 48, locals := 14 } : Room).cells ({ frames := 1, cells := 6, slots := 48, locals := 14 } : Room).slots) := by
  refine MetFree.of_bodySF (plainFor_of_name pn_1) hisR ?_
  intro p e s m args below meth c s₁ Bd hml0 hP hK
  obtain ⟨rfl, hZ, hh⟩ := hP
  have hx := Bd.exec
  have hby := Bd.bytes
  have hml : c.maxLocals = 11 := hml0
  have hown : s.vm.findClass "com/example/hertzbid/hertzbid/ConflictPairs" = some m.cls := findClass_of_methodNamed Bd.named
  have hnm := (name_of_methodNamed Bd.named Bd.method).1
  have X0 : Stand p l e ({ frames := 1, cells := 6, slots := 48, locals := 14 } : Room) s m #[(.int (4 : Int32)), (.ref a2)] below meth c s₁ [] 0 0 := Stand.of_body Bd
  have e0 : s₁.heap = h0 := by rw [← hh, Bd.state]; rfl
  have N0 := Fr.nil n0
  refine Go.done (Go.step (fun t k => castTop (ef_4_4 m a2) k) ?_)
  have KK0 : Keep h0 h0 [] := Keep.refl _ _
  show Go p e below _ (s₁.setTop (mkF m 0 _ []))
  refine gI (q := 1) X0 hx (hb hby d4_0) rfl rfl ?_
  obtain ⟨T3, h3, k3, X3, e3, E3, A3, Ex3, st3⟩ := newPE X0 hx hZ (hw _ (List.mem_of_getElem? (i := 16) rfl)) e0 (g := (mkF m 1 #[.val (.int (4 : Int32)), .val (.ref a2), .unset, .unset, .unset, .unset, .unset, .unset, .unset, .unset, .unset] [(.int (4 : Int32))])) rfl (hb hby d4_1) rfl (by decide) (cap := 4) (by decide) (by decide) (by decide) (by decide) (ad := "[I") rfl
  obtain ⟨b3, g3⟩ : ∃ z, z = h0.size := ⟨_, rfl⟩
  rw [← g3] at A3 Ex3 st3
  have g_b3 : n0 ≤ b3 := Nat.le_trans Z0 (Nat.le_of_eq g3.symm)
  have sz_b3 : h0.size ≤ b3 := Nat.le_trans KK0.1 (Nat.le_of_eq g3.symm)
  have ne_a2_b3 : a2 ≠ b3 := Nat.ne_of_lt (Nat.lt_of_lt_of_le A_a2.lt (Nat.le_of_eq g3.symm))
  refine Go.step st3 ?_
  have A_a2_3 := A_a2.ext E3
  have Z3 := Nat.le_trans Z0 E3.1
  have KK3 : Keep h0 h3 [] := KK0.ext E3
  have A_b3_3 : Ary Z h3 b3 .int 4 (fun i => .int ((fun _ => (0 : Int32)) i)) := Ary.mk A3 (by decide) (by decide)
  replace X3 : Stand p l e ({ frames := 1, cells := 6, slots := 48, locals := 14 } : Room) s m #[(.int (4 : Int32)), (.ref a2)] below meth c T3 _ 1 4 := X3
  show Go p e below _ (T3.setTop (mkF m 3 _ [(.ref b3)]))
  refine Go.step (fun t k => XS.astoreN X3.here hx rfl (hb hby d4_3) rfl rfl (l' := #[.val (.int (4 : Int32)), .val (.ref a2), .val (.ref b3), .unset, .unset, .unset, .unset, .unset, .unset, .unset, .unset]) rfl k) ?_
  show Go p e below _ (T3.setTop (mkF m 4 _ []))
  refine gA (q := 5) X3 hx (hb hby d4_4) rfl rfl rfl ?_
  refine Go.step (fun t k => XS.astoreN X3.here hx rfl (hb hby d4_5) rfl rfl (l' := #[.val (.int (4 : Int32)), .val (.ref a2), .val (.ref b3), .val (.ref a2), .unset, .unset, .unset, .unset, .unset, .unset, .unset]) rfl k) ?_
  show Go p e below _ (T3.setTop (mkF m 6 _ []))
  refine gA (q := 7) X3 hx (hb hby d4_6) rfl rfl rfl ?_
  refine Go.step (lenA X3 hx hZ e3 A_a2_3 (g := (mkF m 7 _ [(.ref a2)])) rfl rfl (hb hby d4_7)) ?_
  show Go p e below _ (T3.setTop (mkF m 8 _ [(.int ee.length.toInt32)]))
  refine Go.step (fun t k => XS.istore X3.here hx rfl (hb hby d4_8) rfl (l' := #[.val (.int (4 : Int32)), .val (.ref a2), .val (.ref b3), .val (.ref a2), .val (.int ee.length.toInt32), .unset, .unset, .unset, .unset, .unset, .unset]) rfl k) ?_
  show Go p e below _ (T3.setTop (mkF m 10 _ []))
  refine gC (q := 11) (v := 0) X3 hx (hb hby d4_10) rfl rfl ?_
  refine Go.step (fun t k => XS.istore X3.here hx rfl (hb hby d4_11) rfl (l' := #[.val (.int (4 : Int32)), .val (.ref a2), .val (.ref b3), .val (.ref a2), .val (.int ee.length.toInt32), .val (.int (0 : Int32)), .unset, .unset, .unset, .unset, .unset]) rfl k) ?_
  show Go p e below _ (T3.setTop (mkF m 13 _ []))
  have LOOP13 : ∀ (mm : Nat) (j : Nat) (sl6 sm6 : Slot) (hsl6 : Two sl6 sm6) (Tl4 : State) (Ll4 : List Loc) (hl4 : Heap) (hmm : ee.length - j = mm) (hj : j ≤ ee.length) (Xl4 : Stand p l e ({ frames := 1, cells := 6, slots := 48, locals := 14 } : Room) s m #[(.int (4 : Int32)), (.ref a2)] below meth c Tl4 Ll4 1 4) (Nl4 : Fr n0 Ll4) (el4 : Tl4.heap = hl4) (KKl4 : Keep h0 hl4 []) (Zl4 : n0 ≤ hl4.size) (A_a2_l4 : Ary Z hl4 a2 .long ee.length (fun i => .long ((encF ee) i))) (A_b3_l4 : Ary Z hl4 b3 .int 4 (fun i => .int ((degF ee j) i))) (E_b3_l4 : Exa Z hl4 b3 "[I"), Go p e below (FinQ below s (Q4_4 Z a2 ee h0 n0) ({ frames := 1, cells := 6, slots := 48, locals := 14 } : Room).cells ({ frames := 1, cells := 6, slots := 48, locals := 14 } : Room).slots) (Tl4.setTop (mkF m 13 #[.val (.int (4 : Int32)), .val (.ref a2), .val (.ref b3), .val (.ref a2), .val (.int ee.length.toInt32), .val (.int (Int32.ofNat j)), sl6, sm6, .unset, .unset, .unset] [])) := by
    intro mm
    induction mm using Nat.strongRecOn with
    | _ mm ih =>
      intro j sl6 sm6 hsl6 Tl4 Ll4 hl4 hmm hj Xl4 Nl4 el4 KKl4 Zl4 A_a2_l4 A_b3_l4 E_b3_l4
      show Go p e below _ (Tl4.setTop (mkF m 13 _ []))
      refine gJ (q := 15) Xl4 hx (hb hby d4_13) rfl rfl ?_
      refine gJ (q := 17) Xl4 hx (hb hby d4_15) rfl rfl ?_
      by_cases hc5 : (Int32.ofNat j) < ee.length.toInt32
      · refine Go.step (fun t k => XS.icmpNo Xl4.here hx rfl (hb hby d4_17) rfl (tlt hc5).2.1 k) ?_
        show Go p e below _ (Tl4.setTop (mkF m 20 _ []))
        refine gA (q := 21) Xl4 hx (hb hby d4_20) rfl rfl rfl ?_
        refine gJ (q := 23) Xl4 hx (hb hby d4_21) rfl rfl ?_
        refine Go.step (ldJ Xl4 hx hZ el4 A_a2_l4 (j := (Int32.ofNat j)) (of_nn (by omega)) (by rw [clamp_nat (by omega)]; exact j_lt hTen hj hc5) (g := (mkF m 23 _ [(.int (Int32.ofNat j)), (.ref a2)])) rfl rfl (hb hby d4_23)) ?_
        show Go p e below _ (Tl4.setTop (mkF m 24 _ [(.long ((encF ee) (Int32.ofNat j).toNatClampNeg))]))
        refine nameIt (fun zz : Int64 => Go p e below _ (Tl4.setTop (mkF m 24 #[.val (.int (4 : Int32)), .val (.ref a2), .val (.ref b3), .val (.ref a2), .val (.int ee.length.toInt32), .val (.int (Int32.ofNat j)), sl6, sm6, .unset, .unset, .unset] [(.long zz)]))) ((encF ee) (Int32.ofNat j).toNatClampNeg) ?_
        intro v6 hv6
        show Go p e below _ (Tl4.setTop (mkF m 24 _ [(.long v6)]))
        refine Go.step (fun t k => XS.lstore Xl4.here hx rfl (hb hby d4_24) rfl (l' := #[.val (.int (4 : Int32)), .val (.ref a2), .val (.ref b3), .val (.ref a2), .val (.int ee.length.toInt32), .val (.int (Int32.ofNat j)), .val (.long v6), .second, .unset, .unset, .unset]) (by rcases hsl6 with ⟨rfl, rfl⟩ | ⟨w, rfl, rfl⟩ <;> rfl) k) ?_
        show Go p e below _ (Tl4.setTop (mkF m 26 _ []))
        have hjl : j < ee.length := j_lt hTen hj hc5
        obtain ⟨ea, eb, hq, hab, hbn, hor⟩ := pick_4 hE hjl
        have hva : ea < 2147483648 := by omega
        have hvb : eb < 2147483648 := by omega
        rw [show v6 = enc (ea, eb) by rw [hv6, clamp_nat (by omega)]; exact congrArg enc hq]
        show Go p e below _ (Tl4.setTop (mkF m 26 _ []))
        refine gA (q := 27) Xl4 hx (hb hby d4_26) rfl rfl rfl ?_
        refine Go.step (fun t k => XS.lload Xl4.here hx rfl (hb hby d4_27) rfl k) ?_
        show Go p e below _ (Tl4.setTop (mkF m 29 _ [(.long (enc (ea, eb))), (.ref b3)]))
        obtain ⟨_, _, ⟨T7, L7, k7, n7⟩, -, X7, ⟨Lc7, hQ7, l7, y7, z7⟩, st7⟩ := Jvm.LawKit.callS Xl4 hx (y := (⟨"com/example/hertzbid/hertzbid/ConflictPairs", "first", "(J)I"⟩ : MethodName)) hown (mvT hZ (hw _ (List.mem_of_getElem? (i := 25) rfl))) (mvT hZ (hw _ (List.mem_of_getElem? (i := 26) rfl))) (mvT hZ (hw _ (List.mem_of_getElem? (i := 14) rfl))) (mvT hZ (hw _ (List.mem_of_getElem? (i := 27) rfl))) (by decide) (backOf (W := 1) (rm7 l Z a0 hw [] (enc (ea, eb)) hl4 n0 Zl4) hZ (hw _ (List.mem_of_getElem? (i := 27) rfl)) (hw _ (List.mem_of_getElem? (i := 14) rfl)) (by decide) (by decide)) (g := (mkF m 29 #[.val (.int (4 : Int32)), .val (.ref a2), .val (.ref b3), .val (.ref a2), .val (.int ee.length.toInt32), .val (.int (Int32.ofNat j)), .val (.long (enc (ea, eb))), .second, .unset, .unset, .unset] [(.long (enc (ea, eb))), (.ref b3)])) rfl (by rw [hml]; rfl) (argsL := [(.long (enc (ea, eb)))]) (rest := [(.ref b3)]) (lenOf pd_2 rfl) rfl (by show 2 * 0 + _ ≤ _; exact Nat.le_of_eq rfl) (hb hby d4_29) (fun _ _ => ⟨rfl, el4, (by decide : 1 + 0 ≤ _), (by decide : 4 + 0 ≤ _)⟩)
        dsimp only [Pt.U, Pt.locs, Pt.cells, Pt.slots] at X7 l7 y7 z7 st7 hQ7
        replace y7 : k7 = 1 := y7
        replace z7 : n7 = 4 := z7
        subst y7 z7
        obtain ⟨rfl, N7q, e7⟩ := hQ7
        have N7 : Fr n0 L7 := Eq.mpr (congrArg (Fr n0) l7) (Fr.app Nl4 N7q)
        refine Go.step st7 ?_
        rw [f7_enc hab (Nat.lt_of_lt_of_le hbn (by decide))]
        show Go p e below _ (T7.setTop (mkF m 32 _ [(.int (Int32.ofNat ea)), (.ref b3)]))
        refine Go.step (S' := T7.setTop (mkF m 33 #[.val (.int (4 : Int32)), .val (.ref a2), .val (.ref b3), .val (.ref a2), .val (.int ee.length.toInt32), .val (.int (Int32.ofNat j)), .val (.long (enc (ea, eb))), .second, .unset, .unset, .unset] [(.int (Int32.ofNat ea)), (.ref b3), (.int (Int32.ofNat ea)), (.ref b3)])) (fun t k => ?_) ?_
        · jvm_step X7.here [X7.here.top, hx, (hb hby d4_32), Value.category]
          exact k
        show Go p e below _ (T7.setTop (mkF m 33 _ [(.int (Int32.ofNat ea)), (.ref b3), (.int (Int32.ofNat ea)), (.ref b3)]))
        refine Go.step (ldI X7 hx hZ e7 A_b3_l4 (j := (Int32.ofNat ea)) (of_nn hva) (by rw [clamp_nat hva]; omega) (g := (mkF m 33 _ [(.int (Int32.ofNat ea)), (.ref b3), (.int (Int32.ofNat ea)), (.ref b3)])) rfl rfl (hb hby d4_33)) ?_
        rw [clamp_nat hva]
        show Go p e below _ (T7.setTop (mkF m 34 _ [(.int ((degF ee j) ea)), (.int (Int32.ofNat ea)), (.ref b3)]))
        refine gC (q := 35) (v := 1) X7 hx (hb hby d4_34) rfl rfl ?_
        refine Go.step (fun t k => XS.iadd X7.here hx rfl (hb hby d4_35) rfl k) ?_
        show Go p e below _ (T7.setTop (mkF m 36 _ [(.int (((degF ee j) ea) + (1 : Int32))), (.int (Int32.ofNat ea)), (.ref b3)]))
        obtain ⟨cl8, Ar8, in8, -⟩ := A_b3_l4.hin (j := (Int32.ofNat ea)) (of_nn hva) (by rw [clamp_nat hva]; omega)
        obtain ⟨T8, h8, X8, e8, W8, st8⟩ := stI X7 hx hZ e7 Ar8 in8 (g := (mkF m 36 #[.val (.int (4 : Int32)), .val (.ref a2), .val (.ref b3), .val (.ref a2), .val (.int ee.length.toInt32), .val (.int (Int32.ofNat j)), .val (.long (enc (ea, eb))), .second, .unset, .unset, .unset] [(.int (((degF ee j) ea) + (1 : Int32))), (.int (Int32.ofNat ea)), (.ref b3)])) rfl rfl (hb hby d4_36)
        refine Go.step st8 ?_
        have N8 := Fr.snoc X8 N7 g_b3
        have A_a2_8 := A_a2_l4.other W8 ne_a2_b3
        have E_b3_8 := E_b3_l4.wr W8
        have Z8 := Nat.le_trans Zl4 (Keep.of_wr W8).1
        have KK8 : Keep h0 h8 [] := KKl4.wr W8 (Or.inr sz_b3)
        have A_b3_8 : Ary Z h8 b3 .int 4 (fun i => .int ((upA (degF ee j) ea (((degF ee j) ea) + (1 : Int32))) i)) := by have q := A_b3_l4.setI W8 (by rw [clamp_nat hva]; omega); rw [clamp_nat hva] at q; exact q
        show Go p e below _ (T8.setTop (mkF m 37 _ []))
        refine gA (q := 38) X8 hx (hb hby d4_37) rfl rfl rfl ?_
        refine Go.step (fun t k => XS.lload X8.here hx rfl (hb hby d4_38) rfl k) ?_
        show Go p e below _ (T8.setTop (mkF m 40 _ [(.long (enc (ea, eb))), (.ref b3)]))
        obtain ⟨_, _, ⟨T9, L9, k9, n9⟩, -, X9, ⟨Lc9, hQ9, l9, y9, z9⟩, st9⟩ := Jvm.LawKit.callS X8 hx (y := (⟨"com/example/hertzbid/hertzbid/ConflictPairs", "second", "(J)I"⟩ : MethodName)) hown (mvT hZ (hw _ (List.mem_of_getElem? (i := 28) rfl))) (mvT hZ (hw _ (List.mem_of_getElem? (i := 29) rfl))) (mvT hZ (hw _ (List.mem_of_getElem? (i := 14) rfl))) (mvT hZ (hw _ (List.mem_of_getElem? (i := 30) rfl))) (by decide) (backOf (W := 1) (rm8 l Z a0 hw [] (enc (ea, eb)) h8 n0 Z8) hZ (hw _ (List.mem_of_getElem? (i := 30) rfl)) (hw _ (List.mem_of_getElem? (i := 14) rfl)) (by decide) (by decide)) (g := (mkF m 40 #[.val (.int (4 : Int32)), .val (.ref a2), .val (.ref b3), .val (.ref a2), .val (.int ee.length.toInt32), .val (.int (Int32.ofNat j)), .val (.long (enc (ea, eb))), .second, .unset, .unset, .unset] [(.long (enc (ea, eb))), (.ref b3)])) rfl (by rw [hml]; rfl) (argsL := [(.long (enc (ea, eb)))]) (rest := [(.ref b3)]) (lenOf pd_2 rfl) rfl (by show 2 * 0 + _ ≤ _; exact Nat.le_of_eq rfl) (hb hby d4_40) (fun _ _ => ⟨rfl, e8, (by decide : 1 + 0 ≤ _), (by decide : 4 + 0 ≤ _)⟩)
        dsimp only [Pt.U, Pt.locs, Pt.cells, Pt.slots] at X9 l9 y9 z9 st9 hQ9
        replace y9 : k9 = 1 := y9
        replace z9 : n9 = 4 := z9
        subst y9 z9
        obtain ⟨rfl, N9q, e9⟩ := hQ9
        have N9 : Fr n0 L9 := Eq.mpr (congrArg (Fr n0) l9) (Fr.app N8 N9q)
        refine Go.step st9 ?_
        rw [f8_enc hab (Nat.lt_of_lt_of_le hbn (by decide))]
        show Go p e below _ (T9.setTop (mkF m 43 _ [(.int (Int32.ofNat eb)), (.ref b3)]))
        refine Go.step (S' := T9.setTop (mkF m 44 #[.val (.int (4 : Int32)), .val (.ref a2), .val (.ref b3), .val (.ref a2), .val (.int ee.length.toInt32), .val (.int (Int32.ofNat j)), .val (.long (enc (ea, eb))), .second, .unset, .unset, .unset] [(.int (Int32.ofNat eb)), (.ref b3), (.int (Int32.ofNat eb)), (.ref b3)])) (fun t k => ?_) ?_
        · jvm_step X9.here [X9.here.top, hx, (hb hby d4_43), Value.category]
          exact k
        show Go p e below _ (T9.setTop (mkF m 44 _ [(.int (Int32.ofNat eb)), (.ref b3), (.int (Int32.ofNat eb)), (.ref b3)]))
        refine Go.step (ldI X9 hx hZ e9 A_b3_8 (j := (Int32.ofNat eb)) (of_nn hvb) (by rw [clamp_nat hvb]; omega) (g := (mkF m 44 _ [(.int (Int32.ofNat eb)), (.ref b3), (.int (Int32.ofNat eb)), (.ref b3)])) rfl rfl (hb hby d4_44)) ?_
        rw [clamp_nat hvb, upA_ne _ _ (Nat.ne_of_gt hab)]
        show Go p e below _ (T9.setTop (mkF m 45 _ [(.int ((degF ee j) eb)), (.int (Int32.ofNat eb)), (.ref b3)]))
        refine gC (q := 46) (v := 1) X9 hx (hb hby d4_45) rfl rfl ?_
        refine Go.step (fun t k => XS.iadd X9.here hx rfl (hb hby d4_46) rfl k) ?_
        show Go p e below _ (T9.setTop (mkF m 47 _ [(.int (((degF ee j) eb) + (1 : Int32))), (.int (Int32.ofNat eb)), (.ref b3)]))
        obtain ⟨cl10, Ar10, in10, -⟩ := A_b3_8.hin (j := (Int32.ofNat eb)) (of_nn hvb) (by rw [clamp_nat hvb]; omega)
        obtain ⟨T10, h10, X10, e10, W10, st10⟩ := stI X9 hx hZ e9 Ar10 in10 (g := (mkF m 47 #[.val (.int (4 : Int32)), .val (.ref a2), .val (.ref b3), .val (.ref a2), .val (.int ee.length.toInt32), .val (.int (Int32.ofNat j)), .val (.long (enc (ea, eb))), .second, .unset, .unset, .unset] [(.int (((degF ee j) eb) + (1 : Int32))), (.int (Int32.ofNat eb)), (.ref b3)])) rfl rfl (hb hby d4_47)
        refine Go.step st10 ?_
        have N10 := Fr.snoc X10 N9 g_b3
        have A_a2_10 := A_a2_8.other W10 ne_a2_b3
        have E_b3_10 := E_b3_8.wr W10
        have Z10 := Nat.le_trans Z8 (Keep.of_wr W10).1
        have KK10 : Keep h0 h10 [] := KK8.wr W10 (Or.inr sz_b3)
        have A_b3_10 : Ary Z h10 b3 .int 4 (fun i => .int ((upA (upA (degF ee j) ea (((degF ee j) ea) + (1 : Int32))) eb (((degF ee j) eb) + (1 : Int32))) i)) := by have q := A_b3_8.setI W10 (by rw [clamp_nat hvb]; omega); rw [clamp_nat hvb] at q; exact q
        show Go p e below _ (T10.setTop (mkF m 48 _ []))
        refine Go.step (fun t k => XS.iinc X10.here hx rfl (hb hby d4_48) rfl (l' := #[.val (.int (4 : Int32)), .val (.ref a2), .val (.ref b3), .val (.ref a2), .val (.int ee.length.toInt32), .val (.int ((Int32.ofNat j) + (1 : Int32))), .val (.long (enc (ea, eb))), .second, .unset, .unset, .unset]) rfl k) ?_
        show Go p e below _ (T10.setTop (mkF m 51 _ []))
        refine Go.step (fun t k => XS.goto X10.here hx rfl (pc0 := 51) (pc' := 13) rfl (hb hby d4_51) (by decide) (by decide) k) ?_
        show Go p e below _ (T10.setTop (mkF m 13 _ []))
        show Go p e below _ (T10.setTop (mkF m 13 _ []))
        rw [succ32]
        exact ih _ (by omega) (j + 1) _ _ Two.v _ _ _ rfl (by omega) X10 N10 e10 KK10 Z10 A_a2_10 (A_b3_10.congr fun i _ => congrArg Value.int (degS hjl hq (Nat.ne_of_lt hab) i)) E_b3_10
      · refine Go.step (fun t k => XS.icmpYes Xl4.here hx rfl (pc0 := 17) (pc' := 54) rfl (hb hby d4_17) rfl (flt hc5).2.1 (by decide) (by decide) k) ?_
        show Go p e below _ (Tl4.setTop (mkF m 54 _ []))
        obtain rfl : j = ee.length := j_ge hTen hj hc5
        show Go p e below _ (Tl4.setTop (mkF m 54 _ []))
        refine gI (q := 55) Xl4 hx (hb hby d4_54) rfl rfl ?_
        obtain ⟨T11, h11, k11, X11, e11, E11, A11, Ex11, Ov11, st11⟩ := newRA Xl4 hx hZ hown (C := "[I") rfl (hw _ (List.mem_of_getElem? (i := 17) rfl)) (hw _ (List.mem_of_getElem? (i := 18) rfl)) el4 (g := (mkF m 55 #[.val (.int (4 : Int32)), .val (.ref a2), .val (.ref b3), .val (.ref a2), .val (.int ee.length.toInt32), .val (.int (Int32.ofNat ee.length)), sl6, sm6, .unset, .unset, .unset] [(.int (4 : Int32))])) rfl (hb hby d4_55) rfl (by decide) (cap := 4) (by decide) (by decide) (by decide) (by decide) (ad := "[[I") rfl
        obtain ⟨b11, g11⟩ : ∃ z, z = hl4.size := ⟨_, rfl⟩
        rw [← g11] at A11 Ex11 st11
        have g_b11 : n0 ≤ b11 := Nat.le_trans Zl4 (Nat.le_of_eq g11.symm)
        have sz_b11 : h0.size ≤ b11 := Nat.le_trans KKl4.1 (Nat.le_of_eq g11.symm)
        have ne_a2_b11 : a2 ≠ b11 := Nat.ne_of_lt (Nat.lt_of_lt_of_le A_a2_l4.lt (Nat.le_of_eq g11.symm))
        have ne_b3_b11 : b3 ≠ b11 := Nat.ne_of_lt (Nat.lt_of_lt_of_le A_b3_l4.lt (Nat.le_of_eq g11.symm))
        refine Go.step st11 ?_
        have A_a2_11 := A_a2_l4.ext E11
        have A_b3_11 := A_b3_l4.ext E11
        have E_b3_11 := E_b3_l4.ext E11
        have Z11 := Nat.le_trans Zl4 E11.1
        have KK11 : Keep h0 h11 [] := KKl4.ext E11
        have A_b11_11 : RAry Z h11 b11 (.array .int) "[I" 4 (fun _ => .null) := RAry.mk A11 Ov11 (by decide) (by decide) rfl
        replace X11 : Stand p l e ({ frames := 1, cells := 6, slots := 48, locals := 14 } : Room) s m #[(.int (4 : Int32)), (.ref a2)] below meth c T11 _ 2 8 := X11
        show Go p e below _ (T11.setTop (mkF m 58 _ [(.ref b11)]))
        refine Go.step (fun t k => XS.astoreN X11.here hx rfl (hb hby d4_58) rfl rfl (l' := #[.val (.int (4 : Int32)), .val (.ref a2), .val (.ref b3), .val (.ref b11), .val (.int ee.length.toInt32), .val (.int (Int32.ofNat ee.length)), sl6, sm6, .unset, .unset, .unset]) rfl k) ?_
        show Go p e below _ (T11.setTop (mkF m 59 _ []))
        refine gC (q := 60) (v := 0) X11 hx (hb hby d4_59) rfl rfl ?_
        refine Go.step (fun t k => XS.istore X11.here hx rfl (hb hby d4_60) rfl (l' := #[.val (.int (4 : Int32)), .val (.ref a2), .val (.ref b3), .val (.ref b11), .val (.int (0 : Int32)), .val (.int (Int32.ofNat ee.length)), sl6, sm6, .unset, .unset, .unset]) rfl k) ?_
        show Go p e below _ (T11.setTop (mkF m 62 _ []))
        refine gJ (q := 64) X11 hx (hb hby d4_62) rfl rfl ?_
        refine gI (q := 65) X11 hx (hb hby d4_64) rfl rfl ?_
        refine Go.step (fun t k => XS.icmpNo X11.here hx rfl (hb hby d4_65) rfl (tlt (by decide : (0 : Int32) < (4 : Int32))).2.1 k) ?_
        show Go p e below _ (T11.setTop (mkF m 68 _ []))
        refine gA (q := 69) X11 hx (hb hby d4_68) rfl rfl rfl ?_
        refine gJ (q := 71) X11 hx (hb hby d4_69) rfl rfl ?_
        refine gA (q := 72) X11 hx (hb hby d4_71) rfl rfl rfl ?_
        refine gJ (q := 74) X11 hx (hb hby d4_72) rfl rfl ?_
        refine Go.step (ldI X11 hx hZ e11 A_b3_11 (j := (0 : Int32)) (by decide) (by decide) (g := (mkF m 74 _ [(.int (0 : Int32)), (.ref b3), (.int (0 : Int32)), (.ref b11)])) rfl rfl (hb hby d4_74)) ?_
        show Go p e below _ (T11.setTop (mkF m 75 _ [(.int ((degF ee ee.length) 0)), (.int (0 : Int32)), (.ref b11)]))
        obtain ⟨T12, h12, k12, X12, e12, E12, A12, Ex12, st12⟩ := newPE X11 hx hZ (hw _ (List.mem_of_getElem? (i := 16) rfl)) e11 (g := (mkF m 75 #[.val (.int (4 : Int32)), .val (.ref a2), .val (.ref b3), .val (.ref b11), .val (.int (0 : Int32)), .val (.int (Int32.ofNat ee.length)), sl6, sm6, .unset, .unset, .unset] [(.int ((degF ee ee.length) 0)), (.int (0 : Int32)), (.ref b11)])) rfl (hb hby d4_75) rfl ((degT ee 0 hTen).1 : ¬ ((degF ee ee.length) 0) < 0) (cap := 10) ((degT ee 0 hTen).2.1 : ((degF ee ee.length) 0).toNatClampNeg ≤ 10) (by decide) (by decide) (by decide) (ad := "[I") rfl
        obtain ⟨b12, g12⟩ : ∃ z, z = h11.size := ⟨_, rfl⟩
        rw [← g12] at A12 Ex12 st12
        have g_b12 : n0 ≤ b12 := Nat.le_trans Z11 (Nat.le_of_eq g12.symm)
        have sz_b12 : h0.size ≤ b12 := Nat.le_trans KK11.1 (Nat.le_of_eq g12.symm)
        have ne_a2_b12 : a2 ≠ b12 := Nat.ne_of_lt (Nat.lt_of_lt_of_le A_a2_11.lt (Nat.le_of_eq g12.symm))
        have ne_b3_b12 : b3 ≠ b12 := Nat.ne_of_lt (Nat.lt_of_lt_of_le A_b3_11.lt (Nat.le_of_eq g12.symm))
        have ne_b11_b12 : b11 ≠ b12 := Nat.ne_of_lt (Nat.lt_of_lt_of_le A_b11_11.lt (Nat.le_of_eq g12.symm))
        refine Go.step st12 ?_
        have A_a2_12 := A_a2_11.ext E12
        have A_b3_12 := A_b3_11.ext E12
        have E_b3_12 := E_b3_11.ext E12
        have A_b11_12 := A_b11_11.ext E12
        have Z12 := Nat.le_trans Z11 E12.1
        have KK12 : Keep h0 h12 [] := KK11.ext E12
        have A_b12_12 : Ary Z h12 b12 .int (nb ee 0).length (fun i => .int ((fun _ => (0 : Int32)) i)) := Ary.mk A12 ((degT ee 0 hTen).1 : ¬ ((degF ee ee.length) 0) < 0) (degT ee 0 hTen).2.2
        replace X12 : Stand p l e ({ frames := 1, cells := 6, slots := 48, locals := 14 } : Room) s m #[(.int (4 : Int32)), (.ref a2)] below meth c T12 _ 3 18 := X12
        show Go p e below _ (T12.setTop (mkF m 77 _ [(.ref b12), (.int (0 : Int32)), (.ref b11)]))
        obtain ⟨cl13, Ar13, in13, -⟩ := A_b11_12.hin (j := (0 : Int32)) (by decide) (by decide)
        obtain ⟨T13, h13, X13, e13, W13, st13⟩ := Jvm.RoadKit.stR X12 hx hZ e12 Ar13 in13 rfl (A_b11_12.sto (Ins.self Ex12)) (g := (mkF m 77 #[.val (.int (4 : Int32)), .val (.ref a2), .val (.ref b3), .val (.ref b11), .val (.int (0 : Int32)), .val (.int (Int32.ofNat ee.length)), sl6, sm6, .unset, .unset, .unset] [(.ref b12), (.int (0 : Int32)), (.ref b11)])) rfl rfl (hb hby d4_77)
        refine Go.step st13 ?_
        have N13 := Fr.snoc X13 Nl4 g_b11
        have A_a2_13 := A_a2_12.other W13 ne_a2_b11
        have A_b3_13 := A_b3_12.other W13 ne_b3_b11
        have E_b3_13 := E_b3_12.wr W13
        have A_b12_13 := A_b12_12.other W13 (Ne.symm ne_b11_b12)
        have E_b12_13 := Ex12.wr W13
        have Z13 := Nat.le_trans Z12 (Keep.of_wr W13).1
        have KK13 : Keep h0 h13 [] := KK12.wr W13 (Or.inr sz_b11)
        have A_b11_13 : RAry Z h13 b11 (.array .int) "[I" 4 (upA (fun _ => .null) 0 (.ref b12)) := A_b11_12.set W13 (by decide)
        show Go p e below _ (T13.setTop (mkF m 78 _ []))
        refine gA (q := 79) X13 hx (hb hby d4_78) rfl rfl rfl ?_
        refine gJ (q := 81) X13 hx (hb hby d4_79) rfl rfl ?_
        refine gC (q := 82) (v := 0) X13 hx (hb hby d4_81) rfl rfl ?_
        obtain ⟨cl14, Ar14, in14, -⟩ := A_b3_13.hin (j := (0 : Int32)) (by decide) (by decide)
        obtain ⟨T14, h14, X14, e14, W14, st14⟩ := stI X13 hx hZ e13 Ar14 in14 (g := (mkF m 82 #[.val (.int (4 : Int32)), .val (.ref a2), .val (.ref b3), .val (.ref b11), .val (.int (0 : Int32)), .val (.int (Int32.ofNat ee.length)), sl6, sm6, .unset, .unset, .unset] [(.int (0 : Int32)), (.int (0 : Int32)), (.ref b3)])) rfl rfl (hb hby d4_82)
        refine Go.step st14 ?_
        have N14 := Fr.snoc X14 N13 g_b3
        have A_a2_14 := A_a2_13.other W14 ne_a2_b3
        have E_b3_14 := E_b3_13.wr W14
        have A_b12_14 := A_b12_13.other W14 (Ne.symm ne_b3_b12)
        have E_b12_14 := E_b12_13.wr W14
        have A_b11_14 := A_b11_13.other W14 (Ne.symm ne_b3_b11)
        have Z14 := Nat.le_trans Z13 (Keep.of_wr W14).1
        have KK14 : Keep h0 h14 [] := KK13.wr W14 (Or.inr sz_b3)
        have A_b3_14 : Ary Z h14 b3 .int 4 (fun i => .int ((upA (degF ee ee.length) 0 (0 : Int32)) i)) := A_b3_13.setI W14 (by decide)
        show Go p e below _ (T14.setTop (mkF m 83 _ []))
        refine Go.step (fun t k => XS.iinc X14.here hx rfl (hb hby d4_83) rfl (l' := #[.val (.int (4 : Int32)), .val (.ref a2), .val (.ref b3), .val (.ref b11), .val (.int (1 : Int32)), .val (.int (Int32.ofNat ee.length)), sl6, sm6, .unset, .unset, .unset]) rfl k) ?_
        show Go p e below _ (T14.setTop (mkF m 86 _ []))
        refine Go.step (fun t k => XS.goto X14.here hx rfl (pc0 := 86) (pc' := 62) rfl (hb hby d4_86) (by decide) (by decide) k) ?_
        show Go p e below _ (T14.setTop (mkF m 62 _ []))
        refine gJ (q := 64) X14 hx (hb hby d4_62) rfl rfl ?_
        refine gI (q := 65) X14 hx (hb hby d4_64) rfl rfl ?_
        refine Go.step (fun t k => XS.icmpNo X14.here hx rfl (hb hby d4_65) rfl (tlt (by decide : (1 : Int32) < (4 : Int32))).2.1 k) ?_
        show Go p e below _ (T14.setTop (mkF m 68 _ []))
        refine gA (q := 69) X14 hx (hb hby d4_68) rfl rfl rfl ?_
        refine gJ (q := 71) X14 hx (hb hby d4_69) rfl rfl ?_
        refine gA (q := 72) X14 hx (hb hby d4_71) rfl rfl rfl ?_
        refine gJ (q := 74) X14 hx (hb hby d4_72) rfl rfl ?_
        refine Go.step (ldI X14 hx hZ e14 A_b3_14 (j := (1 : Int32)) (by decide) (by decide) (g := (mkF m 74 _ [(.int (1 : Int32)), (.ref b3), (.int (1 : Int32)), (.ref b11)])) rfl rfl (hb hby d4_74)) ?_
        show Go p e below _ (T14.setTop (mkF m 75 _ [(.int ((degF ee ee.length) 1)), (.int (1 : Int32)), (.ref b11)]))
        obtain ⟨T15, h15, k15, X15, e15, E15, A15, Ex15, st15⟩ := newPE X14 hx hZ (hw _ (List.mem_of_getElem? (i := 16) rfl)) e14 (g := (mkF m 75 #[.val (.int (4 : Int32)), .val (.ref a2), .val (.ref b3), .val (.ref b11), .val (.int (1 : Int32)), .val (.int (Int32.ofNat ee.length)), sl6, sm6, .unset, .unset, .unset] [(.int ((degF ee ee.length) 1)), (.int (1 : Int32)), (.ref b11)])) rfl (hb hby d4_75) rfl ((degT ee 1 hTen).1 : ¬ ((degF ee ee.length) 1) < 0) (cap := 10) ((degT ee 1 hTen).2.1 : ((degF ee ee.length) 1).toNatClampNeg ≤ 10) (by decide) (by decide) (by decide) (ad := "[I") rfl
        obtain ⟨b15, g15⟩ : ∃ z, z = h14.size := ⟨_, rfl⟩
        rw [← g15] at A15 Ex15 st15
        have g_b15 : n0 ≤ b15 := Nat.le_trans Z14 (Nat.le_of_eq g15.symm)
        have sz_b15 : h0.size ≤ b15 := Nat.le_trans KK14.1 (Nat.le_of_eq g15.symm)
        have ne_a2_b15 : a2 ≠ b15 := Nat.ne_of_lt (Nat.lt_of_lt_of_le A_a2_14.lt (Nat.le_of_eq g15.symm))
        have ne_b3_b15 : b3 ≠ b15 := Nat.ne_of_lt (Nat.lt_of_lt_of_le E_b3_14.lt (Nat.le_of_eq g15.symm))
        have ne_b12_b15 : b12 ≠ b15 := Nat.ne_of_lt (Nat.lt_of_lt_of_le A_b12_14.lt (Nat.le_of_eq g15.symm))
        have ne_b11_b15 : b11 ≠ b15 := Nat.ne_of_lt (Nat.lt_of_lt_of_le A_b11_14.lt (Nat.le_of_eq g15.symm))
        refine Go.step st15 ?_
        have A_a2_15 := A_a2_14.ext E15
        have E_b3_15 := E_b3_14.ext E15
        have A_b12_15 := A_b12_14.ext E15
        have E_b12_15 := E_b12_14.ext E15
        have A_b11_15 := A_b11_14.ext E15
        have A_b3_15 := A_b3_14.ext E15
        have Z15 := Nat.le_trans Z14 E15.1
        have KK15 : Keep h0 h15 [] := KK14.ext E15
        have A_b15_15 : Ary Z h15 b15 .int (nb ee 1).length (fun i => .int ((fun _ => (0 : Int32)) i)) := Ary.mk A15 ((degT ee 1 hTen).1 : ¬ ((degF ee ee.length) 1) < 0) (degT ee 1 hTen).2.2
        replace X15 : Stand p l e ({ frames := 1, cells := 6, slots := 48, locals := 14 } : Room) s m #[(.int (4 : Int32)), (.ref a2)] below meth c T15 _ 4 28 := X15
        show Go p e below _ (T15.setTop (mkF m 77 _ [(.ref b15), (.int (1 : Int32)), (.ref b11)]))
        obtain ⟨cl16, Ar16, in16, -⟩ := A_b11_15.hin (j := (1 : Int32)) (by decide) (by decide)
        obtain ⟨T16, h16, X16, e16, W16, st16⟩ := Jvm.RoadKit.stR X15 hx hZ e15 Ar16 in16 rfl (A_b11_15.sto (Ins.self Ex15)) (g := (mkF m 77 #[.val (.int (4 : Int32)), .val (.ref a2), .val (.ref b3), .val (.ref b11), .val (.int (1 : Int32)), .val (.int (Int32.ofNat ee.length)), sl6, sm6, .unset, .unset, .unset] [(.ref b15), (.int (1 : Int32)), (.ref b11)])) rfl rfl (hb hby d4_77)
        refine Go.step st16 ?_
        have N16 := Fr.snoc X16 N14 g_b11
        have A_a2_16 := A_a2_15.other W16 ne_a2_b11
        have E_b3_16 := E_b3_15.wr W16
        have A_b12_16 := A_b12_15.other W16 (Ne.symm ne_b11_b12)
        have E_b12_16 := E_b12_15.wr W16
        have A_b3_16 := A_b3_15.other W16 ne_b3_b11
        have A_b15_16 := A_b15_15.other W16 (Ne.symm ne_b11_b15)
        have E_b15_16 := Ex15.wr W16
        have Z16 := Nat.le_trans Z15 (Keep.of_wr W16).1
        have KK16 : Keep h0 h16 [] := KK15.wr W16 (Or.inr sz_b11)
        have A_b11_16 : RAry Z h16 b11 (.array .int) "[I" 4 (upA (upA (fun _ => .null) 0 (.ref b12)) 1 (.ref b15)) := A_b11_15.set W16 (by decide)
        show Go p e below _ (T16.setTop (mkF m 78 _ []))
        refine gA (q := 79) X16 hx (hb hby d4_78) rfl rfl rfl ?_
        refine gJ (q := 81) X16 hx (hb hby d4_79) rfl rfl ?_
        refine gC (q := 82) (v := 0) X16 hx (hb hby d4_81) rfl rfl ?_
        obtain ⟨cl17, Ar17, in17, -⟩ := A_b3_16.hin (j := (1 : Int32)) (by decide) (by decide)
        obtain ⟨T17, h17, X17, e17, W17, st17⟩ := stI X16 hx hZ e16 Ar17 in17 (g := (mkF m 82 #[.val (.int (4 : Int32)), .val (.ref a2), .val (.ref b3), .val (.ref b11), .val (.int (1 : Int32)), .val (.int (Int32.ofNat ee.length)), sl6, sm6, .unset, .unset, .unset] [(.int (0 : Int32)), (.int (1 : Int32)), (.ref b3)])) rfl rfl (hb hby d4_82)
        refine Go.step st17 ?_
        have N17 := Fr.snoc X17 N16 g_b3
        have A_a2_17 := A_a2_16.other W17 ne_a2_b3
        have E_b3_17 := E_b3_16.wr W17
        have A_b12_17 := A_b12_16.other W17 (Ne.symm ne_b3_b12)
        have E_b12_17 := E_b12_16.wr W17
        have A_b15_17 := A_b15_16.other W17 (Ne.symm ne_b3_b15)
        have E_b15_17 := E_b15_16.wr W17
        have A_b11_17 := A_b11_16.other W17 (Ne.symm ne_b3_b11)
        have Z17 := Nat.le_trans Z16 (Keep.of_wr W17).1
        have KK17 : Keep h0 h17 [] := KK16.wr W17 (Or.inr sz_b3)
        have A_b3_17 : Ary Z h17 b3 .int 4 (fun i => .int ((upA (upA (degF ee ee.length) 0 (0 : Int32)) 1 (0 : Int32)) i)) := A_b3_16.setI W17 (by decide)
        show Go p e below _ (T17.setTop (mkF m 83 _ []))
        refine Go.step (fun t k => XS.iinc X17.here hx rfl (hb hby d4_83) rfl (l' := #[.val (.int (4 : Int32)), .val (.ref a2), .val (.ref b3), .val (.ref b11), .val (.int (2 : Int32)), .val (.int (Int32.ofNat ee.length)), sl6, sm6, .unset, .unset, .unset]) rfl k) ?_
        show Go p e below _ (T17.setTop (mkF m 86 _ []))
        refine Go.step (fun t k => XS.goto X17.here hx rfl (pc0 := 86) (pc' := 62) rfl (hb hby d4_86) (by decide) (by decide) k) ?_
        show Go p e below _ (T17.setTop (mkF m 62 _ []))
        refine gJ (q := 64) X17 hx (hb hby d4_62) rfl rfl ?_
        refine gI (q := 65) X17 hx (hb hby d4_64) rfl rfl ?_
        refine Go.step (fun t k => XS.icmpNo X17.here hx rfl (hb hby d4_65) rfl (tlt (by decide : (2 : Int32) < (4 : Int32))).2.1 k) ?_
        show Go p e below _ (T17.setTop (mkF m 68 _ []))
        refine gA (q := 69) X17 hx (hb hby d4_68) rfl rfl rfl ?_
        refine gJ (q := 71) X17 hx (hb hby d4_69) rfl rfl ?_
        refine gA (q := 72) X17 hx (hb hby d4_71) rfl rfl rfl ?_
        refine gJ (q := 74) X17 hx (hb hby d4_72) rfl rfl ?_
        refine Go.step (ldI X17 hx hZ e17 A_b3_17 (j := (2 : Int32)) (by decide) (by decide) (g := (mkF m 74 _ [(.int (2 : Int32)), (.ref b3), (.int (2 : Int32)), (.ref b11)])) rfl rfl (hb hby d4_74)) ?_
        show Go p e below _ (T17.setTop (mkF m 75 _ [(.int ((degF ee ee.length) 2)), (.int (2 : Int32)), (.ref b11)]))
        obtain ⟨T18, h18, k18, X18, e18, E18, A18, Ex18, st18⟩ := newPE X17 hx hZ (hw _ (List.mem_of_getElem? (i := 16) rfl)) e17 (g := (mkF m 75 #[.val (.int (4 : Int32)), .val (.ref a2), .val (.ref b3), .val (.ref b11), .val (.int (2 : Int32)), .val (.int (Int32.ofNat ee.length)), sl6, sm6, .unset, .unset, .unset] [(.int ((degF ee ee.length) 2)), (.int (2 : Int32)), (.ref b11)])) rfl (hb hby d4_75) rfl ((degT ee 2 hTen).1 : ¬ ((degF ee ee.length) 2) < 0) (cap := 10) ((degT ee 2 hTen).2.1 : ((degF ee ee.length) 2).toNatClampNeg ≤ 10) (by decide) (by decide) (by decide) (ad := "[I") rfl
        obtain ⟨b18, g18⟩ : ∃ z, z = h17.size := ⟨_, rfl⟩
        rw [← g18] at A18 Ex18 st18
        have g_b18 : n0 ≤ b18 := Nat.le_trans Z17 (Nat.le_of_eq g18.symm)
        have sz_b18 : h0.size ≤ b18 := Nat.le_trans KK17.1 (Nat.le_of_eq g18.symm)
        have ne_a2_b18 : a2 ≠ b18 := Nat.ne_of_lt (Nat.lt_of_lt_of_le A_a2_17.lt (Nat.le_of_eq g18.symm))
        have ne_b3_b18 : b3 ≠ b18 := Nat.ne_of_lt (Nat.lt_of_lt_of_le E_b3_17.lt (Nat.le_of_eq g18.symm))
        have ne_b12_b18 : b12 ≠ b18 := Nat.ne_of_lt (Nat.lt_of_lt_of_le A_b12_17.lt (Nat.le_of_eq g18.symm))
        have ne_b15_b18 : b15 ≠ b18 := Nat.ne_of_lt (Nat.lt_of_lt_of_le A_b15_17.lt (Nat.le_of_eq g18.symm))
        have ne_b11_b18 : b11 ≠ b18 := Nat.ne_of_lt (Nat.lt_of_lt_of_le A_b11_17.lt (Nat.le_of_eq g18.symm))
        refine Go.step st18 ?_
        have A_a2_18 := A_a2_17.ext E18
        have E_b3_18 := E_b3_17.ext E18
        have A_b12_18 := A_b12_17.ext E18
        have E_b12_18 := E_b12_17.ext E18
        have A_b15_18 := A_b15_17.ext E18
        have E_b15_18 := E_b15_17.ext E18
        have A_b11_18 := A_b11_17.ext E18
        have A_b3_18 := A_b3_17.ext E18
        have Z18 := Nat.le_trans Z17 E18.1
        have KK18 : Keep h0 h18 [] := KK17.ext E18
        have A_b18_18 : Ary Z h18 b18 .int (nb ee 2).length (fun i => .int ((fun _ => (0 : Int32)) i)) := Ary.mk A18 ((degT ee 2 hTen).1 : ¬ ((degF ee ee.length) 2) < 0) (degT ee 2 hTen).2.2
        replace X18 : Stand p l e ({ frames := 1, cells := 6, slots := 48, locals := 14 } : Room) s m #[(.int (4 : Int32)), (.ref a2)] below meth c T18 _ 5 38 := X18
        show Go p e below _ (T18.setTop (mkF m 77 _ [(.ref b18), (.int (2 : Int32)), (.ref b11)]))
        obtain ⟨cl19, Ar19, in19, -⟩ := A_b11_18.hin (j := (2 : Int32)) (by decide) (by decide)
        obtain ⟨T19, h19, X19, e19, W19, st19⟩ := Jvm.RoadKit.stR X18 hx hZ e18 Ar19 in19 rfl (A_b11_18.sto (Ins.self Ex18)) (g := (mkF m 77 #[.val (.int (4 : Int32)), .val (.ref a2), .val (.ref b3), .val (.ref b11), .val (.int (2 : Int32)), .val (.int (Int32.ofNat ee.length)), sl6, sm6, .unset, .unset, .unset] [(.ref b18), (.int (2 : Int32)), (.ref b11)])) rfl rfl (hb hby d4_77)
        refine Go.step st19 ?_
        have N19 := Fr.snoc X19 N17 g_b11
        have A_a2_19 := A_a2_18.other W19 ne_a2_b11
        have E_b3_19 := E_b3_18.wr W19
        have A_b12_19 := A_b12_18.other W19 (Ne.symm ne_b11_b12)
        have E_b12_19 := E_b12_18.wr W19
        have A_b15_19 := A_b15_18.other W19 (Ne.symm ne_b11_b15)
        have E_b15_19 := E_b15_18.wr W19
        have A_b3_19 := A_b3_18.other W19 ne_b3_b11
        have A_b18_19 := A_b18_18.other W19 (Ne.symm ne_b11_b18)
        have E_b18_19 := Ex18.wr W19
        have Z19 := Nat.le_trans Z18 (Keep.of_wr W19).1
        have KK19 : Keep h0 h19 [] := KK18.wr W19 (Or.inr sz_b11)
        have A_b11_19 : RAry Z h19 b11 (.array .int) "[I" 4 (upA (upA (upA (fun _ => .null) 0 (.ref b12)) 1 (.ref b15)) 2 (.ref b18)) := A_b11_18.set W19 (by decide)
        show Go p e below _ (T19.setTop (mkF m 78 _ []))
        refine gA (q := 79) X19 hx (hb hby d4_78) rfl rfl rfl ?_
        refine gJ (q := 81) X19 hx (hb hby d4_79) rfl rfl ?_
        refine gC (q := 82) (v := 0) X19 hx (hb hby d4_81) rfl rfl ?_
        obtain ⟨cl20, Ar20, in20, -⟩ := A_b3_19.hin (j := (2 : Int32)) (by decide) (by decide)
        obtain ⟨T20, h20, X20, e20, W20, st20⟩ := stI X19 hx hZ e19 Ar20 in20 (g := (mkF m 82 #[.val (.int (4 : Int32)), .val (.ref a2), .val (.ref b3), .val (.ref b11), .val (.int (2 : Int32)), .val (.int (Int32.ofNat ee.length)), sl6, sm6, .unset, .unset, .unset] [(.int (0 : Int32)), (.int (2 : Int32)), (.ref b3)])) rfl rfl (hb hby d4_82)
        refine Go.step st20 ?_
        have N20 := Fr.snoc X20 N19 g_b3
        have A_a2_20 := A_a2_19.other W20 ne_a2_b3
        have E_b3_20 := E_b3_19.wr W20
        have A_b12_20 := A_b12_19.other W20 (Ne.symm ne_b3_b12)
        have E_b12_20 := E_b12_19.wr W20
        have A_b15_20 := A_b15_19.other W20 (Ne.symm ne_b3_b15)
        have E_b15_20 := E_b15_19.wr W20
        have A_b18_20 := A_b18_19.other W20 (Ne.symm ne_b3_b18)
        have E_b18_20 := E_b18_19.wr W20
        have A_b11_20 := A_b11_19.other W20 (Ne.symm ne_b3_b11)
        have Z20 := Nat.le_trans Z19 (Keep.of_wr W20).1
        have KK20 : Keep h0 h20 [] := KK19.wr W20 (Or.inr sz_b3)
        have A_b3_20 : Ary Z h20 b3 .int 4 (fun i => .int ((upA (upA (upA (degF ee ee.length) 0 (0 : Int32)) 1 (0 : Int32)) 2 (0 : Int32)) i)) := A_b3_19.setI W20 (by decide)
        show Go p e below _ (T20.setTop (mkF m 83 _ []))
        refine Go.step (fun t k => XS.iinc X20.here hx rfl (hb hby d4_83) rfl (l' := #[.val (.int (4 : Int32)), .val (.ref a2), .val (.ref b3), .val (.ref b11), .val (.int (3 : Int32)), .val (.int (Int32.ofNat ee.length)), sl6, sm6, .unset, .unset, .unset]) rfl k) ?_
        show Go p e below _ (T20.setTop (mkF m 86 _ []))
        refine Go.step (fun t k => XS.goto X20.here hx rfl (pc0 := 86) (pc' := 62) rfl (hb hby d4_86) (by decide) (by decide) k) ?_
        show Go p e below _ (T20.setTop (mkF m 62 _ []))
        refine gJ (q := 64) X20 hx (hb hby d4_62) rfl rfl ?_
        refine gI (q := 65) X20 hx (hb hby d4_64) rfl rfl ?_
        refine Go.step (fun t k => XS.icmpNo X20.here hx rfl (hb hby d4_65) rfl (tlt (by decide : (3 : Int32) < (4 : Int32))).2.1 k) ?_
        show Go p e below _ (T20.setTop (mkF m 68 _ []))
        refine gA (q := 69) X20 hx (hb hby d4_68) rfl rfl rfl ?_
        refine gJ (q := 71) X20 hx (hb hby d4_69) rfl rfl ?_
        refine gA (q := 72) X20 hx (hb hby d4_71) rfl rfl rfl ?_
        refine gJ (q := 74) X20 hx (hb hby d4_72) rfl rfl ?_
        refine Go.step (ldI X20 hx hZ e20 A_b3_20 (j := (3 : Int32)) (by decide) (by decide) (g := (mkF m 74 _ [(.int (3 : Int32)), (.ref b3), (.int (3 : Int32)), (.ref b11)])) rfl rfl (hb hby d4_74)) ?_
        show Go p e below _ (T20.setTop (mkF m 75 _ [(.int ((degF ee ee.length) 3)), (.int (3 : Int32)), (.ref b11)]))
        obtain ⟨T21, h21, k21, X21, e21, E21, A21, Ex21, st21⟩ := newPE X20 hx hZ (hw _ (List.mem_of_getElem? (i := 16) rfl)) e20 (g := (mkF m 75 #[.val (.int (4 : Int32)), .val (.ref a2), .val (.ref b3), .val (.ref b11), .val (.int (3 : Int32)), .val (.int (Int32.ofNat ee.length)), sl6, sm6, .unset, .unset, .unset] [(.int ((degF ee ee.length) 3)), (.int (3 : Int32)), (.ref b11)])) rfl (hb hby d4_75) rfl ((degT ee 3 hTen).1 : ¬ ((degF ee ee.length) 3) < 0) (cap := 10) ((degT ee 3 hTen).2.1 : ((degF ee ee.length) 3).toNatClampNeg ≤ 10) (by decide) (by decide) (by decide) (ad := "[I") rfl
        obtain ⟨b21, g21⟩ : ∃ z, z = h20.size := ⟨_, rfl⟩
        rw [← g21] at A21 Ex21 st21
        have g_b21 : n0 ≤ b21 := Nat.le_trans Z20 (Nat.le_of_eq g21.symm)
        have sz_b21 : h0.size ≤ b21 := Nat.le_trans KK20.1 (Nat.le_of_eq g21.symm)
        have ne_a2_b21 : a2 ≠ b21 := Nat.ne_of_lt (Nat.lt_of_lt_of_le A_a2_20.lt (Nat.le_of_eq g21.symm))
        have ne_b3_b21 : b3 ≠ b21 := Nat.ne_of_lt (Nat.lt_of_lt_of_le E_b3_20.lt (Nat.le_of_eq g21.symm))
        have ne_b12_b21 : b12 ≠ b21 := Nat.ne_of_lt (Nat.lt_of_lt_of_le A_b12_20.lt (Nat.le_of_eq g21.symm))
        have ne_b15_b21 : b15 ≠ b21 := Nat.ne_of_lt (Nat.lt_of_lt_of_le A_b15_20.lt (Nat.le_of_eq g21.symm))
        have ne_b18_b21 : b18 ≠ b21 := Nat.ne_of_lt (Nat.lt_of_lt_of_le A_b18_20.lt (Nat.le_of_eq g21.symm))
        have ne_b11_b21 : b11 ≠ b21 := Nat.ne_of_lt (Nat.lt_of_lt_of_le A_b11_20.lt (Nat.le_of_eq g21.symm))
        refine Go.step st21 ?_
        have A_a2_21 := A_a2_20.ext E21
        have E_b3_21 := E_b3_20.ext E21
        have A_b12_21 := A_b12_20.ext E21
        have E_b12_21 := E_b12_20.ext E21
        have A_b15_21 := A_b15_20.ext E21
        have E_b15_21 := E_b15_20.ext E21
        have A_b18_21 := A_b18_20.ext E21
        have E_b18_21 := E_b18_20.ext E21
        have A_b11_21 := A_b11_20.ext E21
        have A_b3_21 := A_b3_20.ext E21
        have Z21 := Nat.le_trans Z20 E21.1
        have KK21 : Keep h0 h21 [] := KK20.ext E21
        have A_b21_21 : Ary Z h21 b21 .int (nb ee 3).length (fun i => .int ((fun _ => (0 : Int32)) i)) := Ary.mk A21 ((degT ee 3 hTen).1 : ¬ ((degF ee ee.length) 3) < 0) (degT ee 3 hTen).2.2
        replace X21 : Stand p l e ({ frames := 1, cells := 6, slots := 48, locals := 14 } : Room) s m #[(.int (4 : Int32)), (.ref a2)] below meth c T21 _ 6 48 := X21
        show Go p e below _ (T21.setTop (mkF m 77 _ [(.ref b21), (.int (3 : Int32)), (.ref b11)]))
        obtain ⟨cl22, Ar22, in22, -⟩ := A_b11_21.hin (j := (3 : Int32)) (by decide) (by decide)
        obtain ⟨T22, h22, X22, e22, W22, st22⟩ := Jvm.RoadKit.stR X21 hx hZ e21 Ar22 in22 rfl (A_b11_21.sto (Ins.self Ex21)) (g := (mkF m 77 #[.val (.int (4 : Int32)), .val (.ref a2), .val (.ref b3), .val (.ref b11), .val (.int (3 : Int32)), .val (.int (Int32.ofNat ee.length)), sl6, sm6, .unset, .unset, .unset] [(.ref b21), (.int (3 : Int32)), (.ref b11)])) rfl rfl (hb hby d4_77)
        refine Go.step st22 ?_
        have N22 := Fr.snoc X22 N20 g_b11
        have A_a2_22 := A_a2_21.other W22 ne_a2_b11
        have E_b3_22 := E_b3_21.wr W22
        have A_b12_22 := A_b12_21.other W22 (Ne.symm ne_b11_b12)
        have E_b12_22 := E_b12_21.wr W22
        have A_b15_22 := A_b15_21.other W22 (Ne.symm ne_b11_b15)
        have E_b15_22 := E_b15_21.wr W22
        have A_b18_22 := A_b18_21.other W22 (Ne.symm ne_b11_b18)
        have E_b18_22 := E_b18_21.wr W22
        have A_b3_22 := A_b3_21.other W22 ne_b3_b11
        have A_b21_22 := A_b21_21.other W22 (Ne.symm ne_b11_b21)
        have E_b21_22 := Ex21.wr W22
        have Z22 := Nat.le_trans Z21 (Keep.of_wr W22).1
        have KK22 : Keep h0 h22 [] := KK21.wr W22 (Or.inr sz_b11)
        have A_b11_22 : RAry Z h22 b11 (.array .int) "[I" 4 (upA (upA (upA (upA (fun _ => .null) 0 (.ref b12)) 1 (.ref b15)) 2 (.ref b18)) 3 (.ref b21)) := A_b11_21.set W22 (by decide)
        show Go p e below _ (T22.setTop (mkF m 78 _ []))
        refine gA (q := 79) X22 hx (hb hby d4_78) rfl rfl rfl ?_
        refine gJ (q := 81) X22 hx (hb hby d4_79) rfl rfl ?_
        refine gC (q := 82) (v := 0) X22 hx (hb hby d4_81) rfl rfl ?_
        obtain ⟨cl23, Ar23, in23, -⟩ := A_b3_22.hin (j := (3 : Int32)) (by decide) (by decide)
        obtain ⟨T23, h23, X23, e23, W23, st23⟩ := stI X22 hx hZ e22 Ar23 in23 (g := (mkF m 82 #[.val (.int (4 : Int32)), .val (.ref a2), .val (.ref b3), .val (.ref b11), .val (.int (3 : Int32)), .val (.int (Int32.ofNat ee.length)), sl6, sm6, .unset, .unset, .unset] [(.int (0 : Int32)), (.int (3 : Int32)), (.ref b3)])) rfl rfl (hb hby d4_82)
        refine Go.step st23 ?_
        have N23 := Fr.snoc X23 N22 g_b3
        have A_a2_23 := A_a2_22.other W23 ne_a2_b3
        have E_b3_23 := E_b3_22.wr W23
        have A_b12_23 := A_b12_22.other W23 (Ne.symm ne_b3_b12)
        have E_b12_23 := E_b12_22.wr W23
        have A_b15_23 := A_b15_22.other W23 (Ne.symm ne_b3_b15)
        have E_b15_23 := E_b15_22.wr W23
        have A_b18_23 := A_b18_22.other W23 (Ne.symm ne_b3_b18)
        have E_b18_23 := E_b18_22.wr W23
        have A_b21_23 := A_b21_22.other W23 (Ne.symm ne_b3_b21)
        have E_b21_23 := E_b21_22.wr W23
        have A_b11_23 := A_b11_22.other W23 (Ne.symm ne_b3_b11)
        have Z23 := Nat.le_trans Z22 (Keep.of_wr W23).1
        have KK23 : Keep h0 h23 [] := KK22.wr W23 (Or.inr sz_b3)
        have A_b3_23 : Ary Z h23 b3 .int 4 (fun i => .int ((upA (upA (upA (upA (degF ee ee.length) 0 (0 : Int32)) 1 (0 : Int32)) 2 (0 : Int32)) 3 (0 : Int32)) i)) := A_b3_22.setI W23 (by decide)
        show Go p e below _ (T23.setTop (mkF m 83 _ []))
        refine Go.step (fun t k => XS.iinc X23.here hx rfl (hb hby d4_83) rfl (l' := #[.val (.int (4 : Int32)), .val (.ref a2), .val (.ref b3), .val (.ref b11), .val (.int (4 : Int32)), .val (.int (Int32.ofNat ee.length)), sl6, sm6, .unset, .unset, .unset]) rfl k) ?_
        show Go p e below _ (T23.setTop (mkF m 86 _ []))
        refine Go.step (fun t k => XS.goto X23.here hx rfl (pc0 := 86) (pc' := 62) rfl (hb hby d4_86) (by decide) (by decide) k) ?_
        show Go p e below _ (T23.setTop (mkF m 62 _ []))
        refine gJ (q := 64) X23 hx (hb hby d4_62) rfl rfl ?_
        refine gI (q := 65) X23 hx (hb hby d4_64) rfl rfl ?_
        refine Go.step (fun t k => XS.icmpYes X23.here hx rfl (pc0 := 65) (pc' := 89) rfl (hb hby d4_65) rfl (flt (by decide : ¬ ((4 : Int32) < (4 : Int32)))).2.1 (by decide) (by decide) k) ?_
        show Go p e below _ (T23.setTop (mkF m 89 _ []))
        show Go p e below _ (T23.setTop (mkF m 89 _ []))
        refine gA (q := 90) X23 hx (hb hby d4_89) rfl rfl rfl ?_
        refine Go.step (fun t k => XS.astore X23.here hx rfl (hb hby d4_90) rfl rfl (l' := #[.val (.int (4 : Int32)), .val (.ref a2), .val (.ref b3), .val (.ref b11), .val (.ref a2), .val (.int (Int32.ofNat ee.length)), sl6, sm6, .unset, .unset, .unset]) rfl k) ?_
        show Go p e below _ (T23.setTop (mkF m 92 _ []))
        refine gB (q := 94) X23 hx (hb hby d4_92) rfl rfl rfl ?_
        refine Go.step (lenA X23 hx hZ e23 A_a2_23 (g := (mkF m 94 _ [(.ref a2)])) rfl rfl (hb hby d4_94)) ?_
        show Go p e below _ (T23.setTop (mkF m 95 _ [(.int ee.length.toInt32)]))
        refine Go.step (fun t k => XS.istore X23.here hx rfl (hb hby d4_95) rfl (l' := #[.val (.int (4 : Int32)), .val (.ref a2), .val (.ref b3), .val (.ref b11), .val (.ref a2), .val (.int ee.length.toInt32), sl6, sm6, .unset, .unset, .unset]) rfl k) ?_
        show Go p e below _ (T23.setTop (mkF m 97 _ []))
        refine gC (q := 98) (v := 0) X23 hx (hb hby d4_97) rfl rfl ?_
        refine Go.step (fun t k => XS.istore X23.here hx rfl (hb hby d4_98) rfl (l' := #[.val (.int (4 : Int32)), .val (.ref a2), .val (.ref b3), .val (.ref b11), .val (.ref a2), .val (.int ee.length.toInt32), .val (.int (0 : Int32)), .unset, .unset, .unset, .unset]) (by rcases hsl6 with ⟨rfl, rfl⟩ | ⟨w, rfl, rfl⟩ <;> rfl) k) ?_
        show Go p e below _ (T23.setTop (mkF m 100 _ []))
        have LOOP100 : ∀ (mm : Nat) (kk : Nat) (sl9 : Slot) (hsl9 : One sl9) (sl10 : Slot) (hsl10 : One sl10) (sl7 sm7 : Slot) (hsl7 : Two sl7 sm7) (Tl24 : State) (Ll24 : List Loc) (hl24 : Heap) (hmm : ee.length - kk = mm) (hk : kk ≤ ee.length) (Xl24 : Stand p l e ({ frames := 1, cells := 6, slots := 48, locals := 14 } : Room) s m #[(.int (4 : Int32)), (.ref a2)] below meth c Tl24 Ll24 6 48) (Nl24 : Fr n0 Ll24) (el24 : Tl24.heap = hl24) (KKl24 : Keep h0 hl24 []) (Zl24 : n0 ≤ hl24.size) (A_a2_l24 : Ary Z hl24 a2 .long ee.length (fun i => .long ((encF ee) i))) (A_b12_l24 : Ary Z hl24 b12 .int (nb ee 0).length (fun i => .int ((rowF (nb (ee.take kk) 0)) i))) (A_b15_l24 : Ary Z hl24 b15 .int (nb ee 1).length (fun i => .int ((rowF (nb (ee.take kk) 1)) i))) (A_b18_l24 : Ary Z hl24 b18 .int (nb ee 2).length (fun i => .int ((rowF (nb (ee.take kk) 2)) i))) (A_b21_l24 : Ary Z hl24 b21 .int (nb ee 3).length (fun i => .int ((rowF (nb (ee.take kk) 3)) i))) (A_b11_l24 : RAry Z hl24 b11 (.array .int) "[I" 4 (upA (upA (upA (upA (fun _ => .null) 0 (.ref b12)) 1 (.ref b15)) 2 (.ref b18)) 3 (.ref b21))) (A_b3_l24 : Ary Z hl24 b3 .int 4 (fun i => .int ((degF ee kk) i))), Go p e below (FinQ below s (Q4_4 Z a2 ee h0 n0) ({ frames := 1, cells := 6, slots := 48, locals := 14 } : Room).cells ({ frames := 1, cells := 6, slots := 48, locals := 14 } : Room).slots) (Tl24.setTop (mkF m 100 #[.val (.int (4 : Int32)), .val (.ref a2), .val (.ref b3), .val (.ref b11), .val (.ref a2), .val (.int ee.length.toInt32), .val (.int (Int32.ofNat kk)), sl7, sm7, sl9, sl10] [])) := by
          intro mm
          induction mm using Nat.strongRecOn with
          | _ mm ih =>
            intro kk sl9 hsl9 sl10 hsl10 sl7 sm7 hsl7 Tl24 Ll24 hl24 hmm hk Xl24 Nl24 el24 KKl24 Zl24 A_a2_l24 A_b12_l24 A_b15_l24 A_b18_l24 A_b21_l24 A_b11_l24 A_b3_l24
            show Go p e below _ (Tl24.setTop (mkF m 100 _ []))
            refine gJ (q := 102) Xl24 hx (hb hby d4_100) rfl rfl ?_
            refine gJ (q := 104) Xl24 hx (hb hby d4_102) rfl rfl ?_
            by_cases hc25 : (Int32.ofNat kk) < ee.length.toInt32
            · refine Go.step (fun t k => XS.icmpNo Xl24.here hx rfl (hb hby d4_104) rfl (tlt hc25).2.1 k) ?_
              show Go p e below _ (Tl24.setTop (mkF m 107 _ []))
              refine gB (q := 109) Xl24 hx (hb hby d4_107) rfl rfl rfl ?_
              refine gJ (q := 111) Xl24 hx (hb hby d4_109) rfl rfl ?_
              refine Go.step (ldJ Xl24 hx hZ el24 A_a2_l24 (j := (Int32.ofNat kk)) (of_nn (by omega)) (by rw [clamp_nat (by omega)]; exact j_lt hTen hk hc25) (g := (mkF m 111 _ [(.int (Int32.ofNat kk)), (.ref a2)])) rfl rfl (hb hby d4_111)) ?_
              show Go p e below _ (Tl24.setTop (mkF m 112 _ [(.long ((encF ee) (Int32.ofNat kk).toNatClampNeg))]))
              refine nameIt (fun zz : Int64 => Go p e below _ (Tl24.setTop (mkF m 112 #[.val (.int (4 : Int32)), .val (.ref a2), .val (.ref b3), .val (.ref b11), .val (.ref a2), .val (.int ee.length.toInt32), .val (.int (Int32.ofNat kk)), sl7, sm7, sl9, sl10] [(.long zz)]))) ((encF ee) (Int32.ofNat kk).toNatClampNeg) ?_
              intro v26 hv26
              show Go p e below _ (Tl24.setTop (mkF m 112 _ [(.long v26)]))
              refine Go.step (fun t k => XS.lstore Xl24.here hx rfl (hb hby d4_112) rfl (l' := #[.val (.int (4 : Int32)), .val (.ref a2), .val (.ref b3), .val (.ref b11), .val (.ref a2), .val (.int ee.length.toInt32), .val (.int (Int32.ofNat kk)), .val (.long v26), .second, sl9, sl10]) (by rcases hsl7 with ⟨rfl, rfl⟩ | ⟨w, rfl, rfl⟩ <;> rfl) k) ?_
              show Go p e below _ (Tl24.setTop (mkF m 114 _ []))
              have hkl : kk < ee.length := j_lt hTen hk hc25
              obtain ⟨ea, eb, hq, hab, hbn, hor⟩ := pick_4 hE hkl
              have hva : ea < 2147483648 := by omega
              have hvb : eb < 2147483648 := by omega
              rw [show v26 = enc (ea, eb) by rw [hv26, clamp_nat (by omega)]; exact congrArg enc hq]
              show Go p e below _ (Tl24.setTop (mkF m 114 _ []))
              refine Go.step (fun t k => XS.lload Xl24.here hx rfl (hb hby d4_114) rfl k) ?_
              show Go p e below _ (Tl24.setTop (mkF m 116 _ [(.long (enc (ea, eb)))]))
              obtain ⟨_, _, ⟨T27, L27, k27, n27⟩, -, X27, ⟨Lc27, hQ27, l27, y27, z27⟩, st27⟩ := Jvm.LawKit.callS Xl24 hx (y := (⟨"com/example/hertzbid/hertzbid/ConflictPairs", "first", "(J)I"⟩ : MethodName)) hown (mvT hZ (hw _ (List.mem_of_getElem? (i := 25) rfl))) (mvT hZ (hw _ (List.mem_of_getElem? (i := 26) rfl))) (mvT hZ (hw _ (List.mem_of_getElem? (i := 14) rfl))) (mvT hZ (hw _ (List.mem_of_getElem? (i := 27) rfl))) (by decide) (backOf (W := 0) (rm7 l Z a0 hw [] (enc (ea, eb)) hl24 n0 Zl24) hZ (hw _ (List.mem_of_getElem? (i := 27) rfl)) (hw _ (List.mem_of_getElem? (i := 14) rfl)) (by decide) (by decide)) (g := (mkF m 116 #[.val (.int (4 : Int32)), .val (.ref a2), .val (.ref b3), .val (.ref b11), .val (.ref a2), .val (.int ee.length.toInt32), .val (.int (Int32.ofNat kk)), .val (.long (enc (ea, eb))), .second, sl9, sl10] [(.long (enc (ea, eb)))])) rfl (by rw [hml]; rfl) (argsL := [(.long (enc (ea, eb)))]) (rest := []) (lenOf pd_2 rfl) rfl (by show 2 * 0 + _ ≤ _; exact Nat.le_of_eq rfl) (hb hby d4_116) (fun _ _ => ⟨rfl, el24, (by decide : 6 + 0 ≤ _), (by decide : 48 + 0 ≤ _)⟩)
              dsimp only [Pt.U, Pt.locs, Pt.cells, Pt.slots] at X27 l27 y27 z27 st27 hQ27
              replace y27 : k27 = 6 := y27
              replace z27 : n27 = 48 := z27
              subst y27 z27
              obtain ⟨rfl, N27q, e27⟩ := hQ27
              have N27 : Fr n0 L27 := Eq.mpr (congrArg (Fr n0) l27) (Fr.app Nl24 N27q)
              refine Go.step st27 ?_
              rw [f7_enc hab (Nat.lt_of_lt_of_le hbn (by decide))]
              show Go p e below _ (T27.setTop (mkF m 119 _ [(.int (Int32.ofNat ea))]))
              refine Go.step (fun t k => XS.istore X27.here hx rfl (hb hby d4_119) rfl (l' := #[.val (.int (4 : Int32)), .val (.ref a2), .val (.ref b3), .val (.ref b11), .val (.ref a2), .val (.int ee.length.toInt32), .val (.int (Int32.ofNat kk)), .val (.long (enc (ea, eb))), .second, .val (.int (Int32.ofNat ea)), sl10]) (by rcases hsl9 with rfl | ⟨w, rfl, hw⟩ <;> first | rfl | (cases w <;> first | rfl | (simp [Value.category] at hw))) k) ?_
              show Go p e below _ (T27.setTop (mkF m 121 _ []))
              refine Go.step (fun t k => XS.lload X27.here hx rfl (hb hby d4_121) rfl k) ?_
              show Go p e below _ (T27.setTop (mkF m 123 _ [(.long (enc (ea, eb)))]))
              obtain ⟨_, _, ⟨T28, L28, k28, n28⟩, -, X28, ⟨Lc28, hQ28, l28, y28, z28⟩, st28⟩ := Jvm.LawKit.callS X27 hx (y := (⟨"com/example/hertzbid/hertzbid/ConflictPairs", "second", "(J)I"⟩ : MethodName)) hown (mvT hZ (hw _ (List.mem_of_getElem? (i := 28) rfl))) (mvT hZ (hw _ (List.mem_of_getElem? (i := 29) rfl))) (mvT hZ (hw _ (List.mem_of_getElem? (i := 14) rfl))) (mvT hZ (hw _ (List.mem_of_getElem? (i := 30) rfl))) (by decide) (backOf (W := 0) (rm8 l Z a0 hw [] (enc (ea, eb)) hl24 n0 Zl24) hZ (hw _ (List.mem_of_getElem? (i := 30) rfl)) (hw _ (List.mem_of_getElem? (i := 14) rfl)) (by decide) (by decide)) (g := (mkF m 123 #[.val (.int (4 : Int32)), .val (.ref a2), .val (.ref b3), .val (.ref b11), .val (.ref a2), .val (.int ee.length.toInt32), .val (.int (Int32.ofNat kk)), .val (.long (enc (ea, eb))), .second, .val (.int (Int32.ofNat ea)), sl10] [(.long (enc (ea, eb)))])) rfl (by rw [hml]; rfl) (argsL := [(.long (enc (ea, eb)))]) (rest := []) (lenOf pd_2 rfl) rfl (by show 2 * 0 + _ ≤ _; exact Nat.le_of_eq rfl) (hb hby d4_123) (fun _ _ => ⟨rfl, e27, (by decide : 6 + 0 ≤ _), (by decide : 48 + 0 ≤ _)⟩)
              dsimp only [Pt.U, Pt.locs, Pt.cells, Pt.slots] at X28 l28 y28 z28 st28 hQ28
              replace y28 : k28 = 6 := y28
              replace z28 : n28 = 48 := z28
              subst y28 z28
              obtain ⟨rfl, N28q, e28⟩ := hQ28
              have N28 : Fr n0 L28 := Eq.mpr (congrArg (Fr n0) l28) (Fr.app N27 N28q)
              refine Go.step st28 ?_
              rw [f8_enc hab (Nat.lt_of_lt_of_le hbn (by decide))]
              show Go p e below _ (T28.setTop (mkF m 126 _ [(.int (Int32.ofNat eb))]))
              refine Go.step (fun t k => XS.istore X28.here hx rfl (hb hby d4_126) rfl (l' := #[.val (.int (4 : Int32)), .val (.ref a2), .val (.ref b3), .val (.ref b11), .val (.ref a2), .val (.int ee.length.toInt32), .val (.int (Int32.ofNat kk)), .val (.long (enc (ea, eb))), .second, .val (.int (Int32.ofNat ea)), .val (.int (Int32.ofNat eb))]) (by rcases hsl10 with rfl | ⟨w, rfl, hw⟩ <;> first | rfl | (cases w <;> first | rfl | (simp [Value.category] at hw))) k) ?_
              show Go p e below _ (T28.setTop (mkF m 128 _ []))
              rcases hor with ⟨rfl, rfl⟩ | ⟨rfl, rfl⟩ | ⟨rfl, rfl⟩ | ⟨rfl, rfl⟩ | ⟨rfl, rfl⟩ | ⟨rfl, rfl⟩
              · skip
                show Go p e below _ (T28.setTop (mkF m 128 #[.val (.int (4 : Int32)), .val (.ref a2), .val (.ref b3), .val (.ref b11), .val (.ref a2), .val (.int ee.length.toInt32), .val (.int (Int32.ofNat kk)), .val (.long (enc (0, 1))), .second, .val (.int (0 : Int32)), .val (.int (1 : Int32))] []))
                refine gA (q := 129) X28 hx (hb hby d4_128) rfl rfl rfl ?_
                refine gJ (q := 131) X28 hx (hb hby d4_129) rfl rfl ?_
                refine Go.step (ldR X28 hx hZ e28 A_b11_l24.ary rfl (j := (0 : Int32)) (by decide) (by decide) (g := (mkF m 131 _ [(.int (0 : Int32)), (.ref b11)])) rfl rfl (hb hby d4_131)) ?_
                show Go p e below _ (T28.setTop (mkF m 132 _ [(.ref b12)]))
                refine gA (q := 133) X28 hx (hb hby d4_132) rfl rfl rfl ?_
                refine gJ (q := 135) X28 hx (hb hby d4_133) rfl rfl ?_
                refine Go.step (S' := T28.setTop (mkF m 136 #[.val (.int (4 : Int32)), .val (.ref a2), .val (.ref b3), .val (.ref b11), .val (.ref a2), .val (.int ee.length.toInt32), .val (.int (Int32.ofNat kk)), .val (.long (enc (0, 1))), .second, .val (.int (0 : Int32)), .val (.int (1 : Int32))] [(.int (0 : Int32)), (.ref b3), (.int (0 : Int32)), (.ref b3), (.ref b12)])) (fun t k => ?_) ?_
                · jvm_step X28.here [X28.here.top, hx, (hb hby d4_135), Value.category]
                  exact k
                show Go p e below _ (T28.setTop (mkF m 136 _ [(.int (0 : Int32)), (.ref b3), (.int (0 : Int32)), (.ref b3), (.ref b12)]))
                refine Go.step (ldI X28 hx hZ e28 A_b3_l24 (j := (0 : Int32)) (by decide) (by decide) (g := (mkF m 136 _ [(.int (0 : Int32)), (.ref b3), (.int (0 : Int32)), (.ref b3), (.ref b12)])) rfl rfl (hb hby d4_136)) ?_
                show Go p e below _ (T28.setTop (mkF m 137 _ [(.int ((degF ee kk) 0)), (.int (0 : Int32)), (.ref b3), (.ref b12)]))
                refine Go.step (S' := T28.setTop (mkF m 138 #[.val (.int (4 : Int32)), .val (.ref a2), .val (.ref b3), .val (.ref b11), .val (.ref a2), .val (.int ee.length.toInt32), .val (.int (Int32.ofNat kk)), .val (.long (enc (0, 1))), .second, .val (.int (0 : Int32)), .val (.int (1 : Int32))] [(.int ((degF ee kk) 0)), (.int (0 : Int32)), (.ref b3), (.int ((degF ee kk) 0)), (.ref b12)])) (fun t k => ?_) ?_
                · jvm_step X28.here [X28.here.top, hx, (hb hby d4_137), Value.category]
                  exact k
                show Go p e below _ (T28.setTop (mkF m 138 _ [(.int ((degF ee kk) 0)), (.int (0 : Int32)), (.ref b3), (.int ((degF ee kk) 0)), (.ref b12)]))
                refine gC (q := 139) (v := 1) X28 hx (hb hby d4_138) rfl rfl ?_
                refine Go.step (fun t k => XS.iadd X28.here hx rfl (hb hby d4_139) rfl k) ?_
                show Go p e below _ (T28.setTop (mkF m 140 _ [(.int (((degF ee kk) 0) + (1 : Int32))), (.int (0 : Int32)), (.ref b3), (.int ((degF ee kk) 0)), (.ref b12)]))
                obtain ⟨cl29, Ar29, in29, -⟩ := A_b3_l24.hin (j := (0 : Int32)) (by decide) (by decide)
                obtain ⟨T29, h29, X29, e29, W29, st29⟩ := stI X28 hx hZ e28 Ar29 in29 (g := (mkF m 140 #[.val (.int (4 : Int32)), .val (.ref a2), .val (.ref b3), .val (.ref b11), .val (.ref a2), .val (.int ee.length.toInt32), .val (.int (Int32.ofNat kk)), .val (.long (enc (0, 1))), .second, .val (.int (0 : Int32)), .val (.int (1 : Int32))] [(.int (((degF ee kk) 0) + (1 : Int32))), (.int (0 : Int32)), (.ref b3), (.int ((degF ee kk) 0)), (.ref b12)])) rfl rfl (hb hby d4_140)
                refine Go.step st29 ?_
                have N29 := Fr.snoc X29 N28 g_b3
                have A_a2_29 := A_a2_l24.other W29 ne_a2_b3
                have A_b12_29 := A_b12_l24.other W29 (Ne.symm ne_b3_b12)
                have A_b15_29 := A_b15_l24.other W29 (Ne.symm ne_b3_b15)
                have A_b18_29 := A_b18_l24.other W29 (Ne.symm ne_b3_b18)
                have A_b21_29 := A_b21_l24.other W29 (Ne.symm ne_b3_b21)
                have A_b11_29 := A_b11_l24.other W29 (Ne.symm ne_b3_b11)
                have Z29 := Nat.le_trans Zl24 (Keep.of_wr W29).1
                have KK29 : Keep h0 h29 [] := KKl24.wr W29 (Or.inr sz_b3)
                have A_b3_29 : Ary Z h29 b3 .int 4 (fun i => .int ((upA (degF ee kk) 0 (((degF ee kk) 0) + (1 : Int32))) i)) := A_b3_l24.setI W29 (by decide)
                show Go p e below _ (T29.setTop (mkF m 141 _ [(.int ((degF ee kk) 0)), (.ref b12)]))
                refine gJ (q := 143) X29 hx (hb hby d4_141) rfl rfl ?_
                obtain ⟨cl30, Ar30, in30, -⟩ := A_b12_29.hin (j := ((degF ee kk) 0)) (degB hTen (ltA hkl hq)).1 (degB hTen (ltA hkl hq)).2
                obtain ⟨T30, h30, X30, e30, W30, st30⟩ := stI X29 hx hZ e29 Ar30 in30 (g := (mkF m 143 #[.val (.int (4 : Int32)), .val (.ref a2), .val (.ref b3), .val (.ref b11), .val (.ref a2), .val (.int ee.length.toInt32), .val (.int (Int32.ofNat kk)), .val (.long (enc (0, 1))), .second, .val (.int (0 : Int32)), .val (.int (1 : Int32))] [(.int (1 : Int32)), (.int ((degF ee kk) 0)), (.ref b12)])) rfl rfl (hb hby d4_143)
                refine Go.step st30 ?_
                have N30 := Fr.snoc X30 N29 g_b12
                have A_a2_30 := A_a2_29.other W30 ne_a2_b12
                have A_b15_30 := A_b15_29.other W30 (Ne.symm ne_b12_b15)
                have A_b18_30 := A_b18_29.other W30 (Ne.symm ne_b12_b18)
                have A_b21_30 := A_b21_29.other W30 (Ne.symm ne_b12_b21)
                have A_b11_30 := A_b11_29.other W30 ne_b11_b12
                have A_b3_30 := A_b3_29.other W30 ne_b3_b12
                have Z30 := Nat.le_trans Z29 (Keep.of_wr W30).1
                have KK30 : Keep h0 h30 [] := KK29.wr W30 (Or.inr sz_b12)
                have A_b12_30 : Ary Z h30 b12 .int (nb ee 0).length (fun i => .int ((upA (rowF (nb (ee.take kk) 0)) ((degF ee kk) 0).toNatClampNeg (1 : Int32)) i)) := A_b12_29.setI W30 (degB hTen (ltA hkl hq)).2
                show Go p e below _ (T30.setTop (mkF m 144 _ []))
                refine gA (q := 145) X30 hx (hb hby d4_144) rfl rfl rfl ?_
                refine gJ (q := 147) X30 hx (hb hby d4_145) rfl rfl ?_
                refine Go.step (ldR X30 hx hZ e30 A_b11_30.ary rfl (j := (1 : Int32)) (by decide) (by decide) (g := (mkF m 147 _ [(.int (1 : Int32)), (.ref b11)])) rfl rfl (hb hby d4_147)) ?_
                show Go p e below _ (T30.setTop (mkF m 148 _ [(.ref b15)]))
                refine gA (q := 149) X30 hx (hb hby d4_148) rfl rfl rfl ?_
                refine gJ (q := 151) X30 hx (hb hby d4_149) rfl rfl ?_
                refine Go.step (S' := T30.setTop (mkF m 152 #[.val (.int (4 : Int32)), .val (.ref a2), .val (.ref b3), .val (.ref b11), .val (.ref a2), .val (.int ee.length.toInt32), .val (.int (Int32.ofNat kk)), .val (.long (enc (0, 1))), .second, .val (.int (0 : Int32)), .val (.int (1 : Int32))] [(.int (1 : Int32)), (.ref b3), (.int (1 : Int32)), (.ref b3), (.ref b15)])) (fun t k => ?_) ?_
                · jvm_step X30.here [X30.here.top, hx, (hb hby d4_151), Value.category]
                  exact k
                show Go p e below _ (T30.setTop (mkF m 152 _ [(.int (1 : Int32)), (.ref b3), (.int (1 : Int32)), (.ref b3), (.ref b15)]))
                refine Go.step (ldI X30 hx hZ e30 A_b3_30 (j := (1 : Int32)) (by decide) (by decide) (g := (mkF m 152 _ [(.int (1 : Int32)), (.ref b3), (.int (1 : Int32)), (.ref b3), (.ref b15)])) rfl rfl (hb hby d4_152)) ?_
                show Go p e below _ (T30.setTop (mkF m 153 _ [(.int ((degF ee kk) 1)), (.int (1 : Int32)), (.ref b3), (.ref b15)]))
                refine Go.step (S' := T30.setTop (mkF m 154 #[.val (.int (4 : Int32)), .val (.ref a2), .val (.ref b3), .val (.ref b11), .val (.ref a2), .val (.int ee.length.toInt32), .val (.int (Int32.ofNat kk)), .val (.long (enc (0, 1))), .second, .val (.int (0 : Int32)), .val (.int (1 : Int32))] [(.int ((degF ee kk) 1)), (.int (1 : Int32)), (.ref b3), (.int ((degF ee kk) 1)), (.ref b15)])) (fun t k => ?_) ?_
                · jvm_step X30.here [X30.here.top, hx, (hb hby d4_153), Value.category]
                  exact k
                show Go p e below _ (T30.setTop (mkF m 154 _ [(.int ((degF ee kk) 1)), (.int (1 : Int32)), (.ref b3), (.int ((degF ee kk) 1)), (.ref b15)]))
                refine gC (q := 155) (v := 1) X30 hx (hb hby d4_154) rfl rfl ?_
                refine Go.step (fun t k => XS.iadd X30.here hx rfl (hb hby d4_155) rfl k) ?_
                show Go p e below _ (T30.setTop (mkF m 156 _ [(.int (((degF ee kk) 1) + (1 : Int32))), (.int (1 : Int32)), (.ref b3), (.int ((degF ee kk) 1)), (.ref b15)]))
                obtain ⟨cl31, Ar31, in31, -⟩ := A_b3_30.hin (j := (1 : Int32)) (by decide) (by decide)
                obtain ⟨T31, h31, X31, e31, W31, st31⟩ := stI X30 hx hZ e30 Ar31 in31 (g := (mkF m 156 #[.val (.int (4 : Int32)), .val (.ref a2), .val (.ref b3), .val (.ref b11), .val (.ref a2), .val (.int ee.length.toInt32), .val (.int (Int32.ofNat kk)), .val (.long (enc (0, 1))), .second, .val (.int (0 : Int32)), .val (.int (1 : Int32))] [(.int (((degF ee kk) 1) + (1 : Int32))), (.int (1 : Int32)), (.ref b3), (.int ((degF ee kk) 1)), (.ref b15)])) rfl rfl (hb hby d4_156)
                refine Go.step st31 ?_
                have N31 := Fr.snoc X31 N30 g_b3
                have A_a2_31 := A_a2_30.other W31 ne_a2_b3
                have A_b15_31 := A_b15_30.other W31 (Ne.symm ne_b3_b15)
                have A_b18_31 := A_b18_30.other W31 (Ne.symm ne_b3_b18)
                have A_b21_31 := A_b21_30.other W31 (Ne.symm ne_b3_b21)
                have A_b11_31 := A_b11_30.other W31 (Ne.symm ne_b3_b11)
                have A_b12_31 := A_b12_30.other W31 (Ne.symm ne_b3_b12)
                have Z31 := Nat.le_trans Z30 (Keep.of_wr W31).1
                have KK31 : Keep h0 h31 [] := KK30.wr W31 (Or.inr sz_b3)
                have A_b3_31 : Ary Z h31 b3 .int 4 (fun i => .int ((upA (upA (degF ee kk) 0 (((degF ee kk) 0) + (1 : Int32))) 1 (((degF ee kk) 1) + (1 : Int32))) i)) := A_b3_30.setI W31 (by decide)
                show Go p e below _ (T31.setTop (mkF m 157 _ [(.int ((degF ee kk) 1)), (.ref b15)]))
                refine gJ (q := 159) X31 hx (hb hby d4_157) rfl rfl ?_
                obtain ⟨cl32, Ar32, in32, -⟩ := A_b15_31.hin (j := ((degF ee kk) 1)) (degB hTen (ltB hkl hq (by decide))).1 (degB hTen (ltB hkl hq (by decide))).2
                obtain ⟨T32, h32, X32, e32, W32, st32⟩ := stI X31 hx hZ e31 Ar32 in32 (g := (mkF m 159 #[.val (.int (4 : Int32)), .val (.ref a2), .val (.ref b3), .val (.ref b11), .val (.ref a2), .val (.int ee.length.toInt32), .val (.int (Int32.ofNat kk)), .val (.long (enc (0, 1))), .second, .val (.int (0 : Int32)), .val (.int (1 : Int32))] [(.int (0 : Int32)), (.int ((degF ee kk) 1)), (.ref b15)])) rfl rfl (hb hby d4_159)
                refine Go.step st32 ?_
                have N32 := Fr.snoc X32 N31 g_b15
                have A_a2_32 := A_a2_31.other W32 ne_a2_b15
                have A_b18_32 := A_b18_31.other W32 (Ne.symm ne_b15_b18)
                have A_b21_32 := A_b21_31.other W32 (Ne.symm ne_b15_b21)
                have A_b11_32 := A_b11_31.other W32 ne_b11_b15
                have A_b12_32 := A_b12_31.other W32 ne_b12_b15
                have A_b3_32 := A_b3_31.other W32 ne_b3_b15
                have Z32 := Nat.le_trans Z31 (Keep.of_wr W32).1
                have KK32 : Keep h0 h32 [] := KK31.wr W32 (Or.inr sz_b15)
                have A_b15_32 : Ary Z h32 b15 .int (nb ee 1).length (fun i => .int ((upA (rowF (nb (ee.take kk) 1)) ((degF ee kk) 1).toNatClampNeg (0 : Int32)) i)) := A_b15_31.setI W32 (degB hTen (ltB hkl hq (by decide))).2
                show Go p e below _ (T32.setTop (mkF m 160 _ []))
                refine Go.step (fun t k => XS.iinc X32.here hx rfl (hb hby d4_160) rfl (l' := #[.val (.int (4 : Int32)), .val (.ref a2), .val (.ref b3), .val (.ref b11), .val (.ref a2), .val (.int ee.length.toInt32), .val (.int ((Int32.ofNat kk) + (1 : Int32))), .val (.long (enc (0, 1))), .second, .val (.int (0 : Int32)), .val (.int (1 : Int32))]) rfl k) ?_
                show Go p e below _ (T32.setTop (mkF m 163 _ []))
                refine Go.step (fun t k => XS.goto X32.here hx rfl (pc0 := 163) (pc' := 100) rfl (hb hby d4_163) (by decide) (by decide) k) ?_
                show Go p e below _ (T32.setTop (mkF m 100 _ []))
                show Go p e below _ (T32.setTop (mkF m 100 _ []))
                rw [succ32]
                exact ih _ (by omega) (kk + 1) _ (One.val rfl) _ (One.val rfl) _ _ Two.v _ _ _ rfl (by omega) X32 N32 e32 KK32 Z32 A_a2_32 (A_b12_32.congr fun q _ => congrArg Value.int (rowA hTen hkl hq (by decide) q)) (A_b15_32.congr fun q _ => congrArg Value.int (rowB hTen hkl hq (by decide) (by decide) q)) (A_b18_32.congr fun q _ => congrArg Value.int (by rw [nbC hkl hq (by decide) (by decide)])) (A_b21_32.congr fun q _ => congrArg Value.int (by rw [nbC hkl hq (by decide) (by decide)])) A_b11_32 (A_b3_32.congr fun i _ => congrArg Value.int (degS hkl hq (by decide) i))
              · skip
                show Go p e below _ (T28.setTop (mkF m 128 #[.val (.int (4 : Int32)), .val (.ref a2), .val (.ref b3), .val (.ref b11), .val (.ref a2), .val (.int ee.length.toInt32), .val (.int (Int32.ofNat kk)), .val (.long (enc (0, 2))), .second, .val (.int (0 : Int32)), .val (.int (2 : Int32))] []))
                refine gA (q := 129) X28 hx (hb hby d4_128) rfl rfl rfl ?_
                refine gJ (q := 131) X28 hx (hb hby d4_129) rfl rfl ?_
                refine Go.step (ldR X28 hx hZ e28 A_b11_l24.ary rfl (j := (0 : Int32)) (by decide) (by decide) (g := (mkF m 131 _ [(.int (0 : Int32)), (.ref b11)])) rfl rfl (hb hby d4_131)) ?_
                show Go p e below _ (T28.setTop (mkF m 132 _ [(.ref b12)]))
                refine gA (q := 133) X28 hx (hb hby d4_132) rfl rfl rfl ?_
                refine gJ (q := 135) X28 hx (hb hby d4_133) rfl rfl ?_
                refine Go.step (S' := T28.setTop (mkF m 136 #[.val (.int (4 : Int32)), .val (.ref a2), .val (.ref b3), .val (.ref b11), .val (.ref a2), .val (.int ee.length.toInt32), .val (.int (Int32.ofNat kk)), .val (.long (enc (0, 2))), .second, .val (.int (0 : Int32)), .val (.int (2 : Int32))] [(.int (0 : Int32)), (.ref b3), (.int (0 : Int32)), (.ref b3), (.ref b12)])) (fun t k => ?_) ?_
                · jvm_step X28.here [X28.here.top, hx, (hb hby d4_135), Value.category]
                  exact k
                show Go p e below _ (T28.setTop (mkF m 136 _ [(.int (0 : Int32)), (.ref b3), (.int (0 : Int32)), (.ref b3), (.ref b12)]))
                refine Go.step (ldI X28 hx hZ e28 A_b3_l24 (j := (0 : Int32)) (by decide) (by decide) (g := (mkF m 136 _ [(.int (0 : Int32)), (.ref b3), (.int (0 : Int32)), (.ref b3), (.ref b12)])) rfl rfl (hb hby d4_136)) ?_
                show Go p e below _ (T28.setTop (mkF m 137 _ [(.int ((degF ee kk) 0)), (.int (0 : Int32)), (.ref b3), (.ref b12)]))
                refine Go.step (S' := T28.setTop (mkF m 138 #[.val (.int (4 : Int32)), .val (.ref a2), .val (.ref b3), .val (.ref b11), .val (.ref a2), .val (.int ee.length.toInt32), .val (.int (Int32.ofNat kk)), .val (.long (enc (0, 2))), .second, .val (.int (0 : Int32)), .val (.int (2 : Int32))] [(.int ((degF ee kk) 0)), (.int (0 : Int32)), (.ref b3), (.int ((degF ee kk) 0)), (.ref b12)])) (fun t k => ?_) ?_
                · jvm_step X28.here [X28.here.top, hx, (hb hby d4_137), Value.category]
                  exact k
                show Go p e below _ (T28.setTop (mkF m 138 _ [(.int ((degF ee kk) 0)), (.int (0 : Int32)), (.ref b3), (.int ((degF ee kk) 0)), (.ref b12)]))
                refine gC (q := 139) (v := 1) X28 hx (hb hby d4_138) rfl rfl ?_
                refine Go.step (fun t k => XS.iadd X28.here hx rfl (hb hby d4_139) rfl k) ?_
                show Go p e below _ (T28.setTop (mkF m 140 _ [(.int (((degF ee kk) 0) + (1 : Int32))), (.int (0 : Int32)), (.ref b3), (.int ((degF ee kk) 0)), (.ref b12)]))
                obtain ⟨cl33, Ar33, in33, -⟩ := A_b3_l24.hin (j := (0 : Int32)) (by decide) (by decide)
                obtain ⟨T33, h33, X33, e33, W33, st33⟩ := stI X28 hx hZ e28 Ar33 in33 (g := (mkF m 140 #[.val (.int (4 : Int32)), .val (.ref a2), .val (.ref b3), .val (.ref b11), .val (.ref a2), .val (.int ee.length.toInt32), .val (.int (Int32.ofNat kk)), .val (.long (enc (0, 2))), .second, .val (.int (0 : Int32)), .val (.int (2 : Int32))] [(.int (((degF ee kk) 0) + (1 : Int32))), (.int (0 : Int32)), (.ref b3), (.int ((degF ee kk) 0)), (.ref b12)])) rfl rfl (hb hby d4_140)
                refine Go.step st33 ?_
                have N33 := Fr.snoc X33 N28 g_b3
                have A_a2_33 := A_a2_l24.other W33 ne_a2_b3
                have A_b12_33 := A_b12_l24.other W33 (Ne.symm ne_b3_b12)
                have A_b15_33 := A_b15_l24.other W33 (Ne.symm ne_b3_b15)
                have A_b18_33 := A_b18_l24.other W33 (Ne.symm ne_b3_b18)
                have A_b21_33 := A_b21_l24.other W33 (Ne.symm ne_b3_b21)
                have A_b11_33 := A_b11_l24.other W33 (Ne.symm ne_b3_b11)
                have Z33 := Nat.le_trans Zl24 (Keep.of_wr W33).1
                have KK33 : Keep h0 h33 [] := KKl24.wr W33 (Or.inr sz_b3)
                have A_b3_33 : Ary Z h33 b3 .int 4 (fun i => .int ((upA (degF ee kk) 0 (((degF ee kk) 0) + (1 : Int32))) i)) := A_b3_l24.setI W33 (by decide)
                show Go p e below _ (T33.setTop (mkF m 141 _ [(.int ((degF ee kk) 0)), (.ref b12)]))
                refine gJ (q := 143) X33 hx (hb hby d4_141) rfl rfl ?_
                obtain ⟨cl34, Ar34, in34, -⟩ := A_b12_33.hin (j := ((degF ee kk) 0)) (degB hTen (ltA hkl hq)).1 (degB hTen (ltA hkl hq)).2
                obtain ⟨T34, h34, X34, e34, W34, st34⟩ := stI X33 hx hZ e33 Ar34 in34 (g := (mkF m 143 #[.val (.int (4 : Int32)), .val (.ref a2), .val (.ref b3), .val (.ref b11), .val (.ref a2), .val (.int ee.length.toInt32), .val (.int (Int32.ofNat kk)), .val (.long (enc (0, 2))), .second, .val (.int (0 : Int32)), .val (.int (2 : Int32))] [(.int (2 : Int32)), (.int ((degF ee kk) 0)), (.ref b12)])) rfl rfl (hb hby d4_143)
                refine Go.step st34 ?_
                have N34 := Fr.snoc X34 N33 g_b12
                have A_a2_34 := A_a2_33.other W34 ne_a2_b12
                have A_b15_34 := A_b15_33.other W34 (Ne.symm ne_b12_b15)
                have A_b18_34 := A_b18_33.other W34 (Ne.symm ne_b12_b18)
                have A_b21_34 := A_b21_33.other W34 (Ne.symm ne_b12_b21)
                have A_b11_34 := A_b11_33.other W34 ne_b11_b12
                have A_b3_34 := A_b3_33.other W34 ne_b3_b12
                have Z34 := Nat.le_trans Z33 (Keep.of_wr W34).1
                have KK34 : Keep h0 h34 [] := KK33.wr W34 (Or.inr sz_b12)
                have A_b12_34 : Ary Z h34 b12 .int (nb ee 0).length (fun i => .int ((upA (rowF (nb (ee.take kk) 0)) ((degF ee kk) 0).toNatClampNeg (2 : Int32)) i)) := A_b12_33.setI W34 (degB hTen (ltA hkl hq)).2
                show Go p e below _ (T34.setTop (mkF m 144 _ []))
                refine gA (q := 145) X34 hx (hb hby d4_144) rfl rfl rfl ?_
                refine gJ (q := 147) X34 hx (hb hby d4_145) rfl rfl ?_
                refine Go.step (ldR X34 hx hZ e34 A_b11_34.ary rfl (j := (2 : Int32)) (by decide) (by decide) (g := (mkF m 147 _ [(.int (2 : Int32)), (.ref b11)])) rfl rfl (hb hby d4_147)) ?_
                show Go p e below _ (T34.setTop (mkF m 148 _ [(.ref b18)]))
                refine gA (q := 149) X34 hx (hb hby d4_148) rfl rfl rfl ?_
                refine gJ (q := 151) X34 hx (hb hby d4_149) rfl rfl ?_
                refine Go.step (S' := T34.setTop (mkF m 152 #[.val (.int (4 : Int32)), .val (.ref a2), .val (.ref b3), .val (.ref b11), .val (.ref a2), .val (.int ee.length.toInt32), .val (.int (Int32.ofNat kk)), .val (.long (enc (0, 2))), .second, .val (.int (0 : Int32)), .val (.int (2 : Int32))] [(.int (2 : Int32)), (.ref b3), (.int (2 : Int32)), (.ref b3), (.ref b18)])) (fun t k => ?_) ?_
                · jvm_step X34.here [X34.here.top, hx, (hb hby d4_151), Value.category]
                  exact k
                show Go p e below _ (T34.setTop (mkF m 152 _ [(.int (2 : Int32)), (.ref b3), (.int (2 : Int32)), (.ref b3), (.ref b18)]))
                refine Go.step (ldI X34 hx hZ e34 A_b3_34 (j := (2 : Int32)) (by decide) (by decide) (g := (mkF m 152 _ [(.int (2 : Int32)), (.ref b3), (.int (2 : Int32)), (.ref b3), (.ref b18)])) rfl rfl (hb hby d4_152)) ?_
                show Go p e below _ (T34.setTop (mkF m 153 _ [(.int ((degF ee kk) 2)), (.int (2 : Int32)), (.ref b3), (.ref b18)]))
                refine Go.step (S' := T34.setTop (mkF m 154 #[.val (.int (4 : Int32)), .val (.ref a2), .val (.ref b3), .val (.ref b11), .val (.ref a2), .val (.int ee.length.toInt32), .val (.int (Int32.ofNat kk)), .val (.long (enc (0, 2))), .second, .val (.int (0 : Int32)), .val (.int (2 : Int32))] [(.int ((degF ee kk) 2)), (.int (2 : Int32)), (.ref b3), (.int ((degF ee kk) 2)), (.ref b18)])) (fun t k => ?_) ?_
                · jvm_step X34.here [X34.here.top, hx, (hb hby d4_153), Value.category]
                  exact k
                show Go p e below _ (T34.setTop (mkF m 154 _ [(.int ((degF ee kk) 2)), (.int (2 : Int32)), (.ref b3), (.int ((degF ee kk) 2)), (.ref b18)]))
                refine gC (q := 155) (v := 1) X34 hx (hb hby d4_154) rfl rfl ?_
                refine Go.step (fun t k => XS.iadd X34.here hx rfl (hb hby d4_155) rfl k) ?_
                show Go p e below _ (T34.setTop (mkF m 156 _ [(.int (((degF ee kk) 2) + (1 : Int32))), (.int (2 : Int32)), (.ref b3), (.int ((degF ee kk) 2)), (.ref b18)]))
                obtain ⟨cl35, Ar35, in35, -⟩ := A_b3_34.hin (j := (2 : Int32)) (by decide) (by decide)
                obtain ⟨T35, h35, X35, e35, W35, st35⟩ := stI X34 hx hZ e34 Ar35 in35 (g := (mkF m 156 #[.val (.int (4 : Int32)), .val (.ref a2), .val (.ref b3), .val (.ref b11), .val (.ref a2), .val (.int ee.length.toInt32), .val (.int (Int32.ofNat kk)), .val (.long (enc (0, 2))), .second, .val (.int (0 : Int32)), .val (.int (2 : Int32))] [(.int (((degF ee kk) 2) + (1 : Int32))), (.int (2 : Int32)), (.ref b3), (.int ((degF ee kk) 2)), (.ref b18)])) rfl rfl (hb hby d4_156)
                refine Go.step st35 ?_
                have N35 := Fr.snoc X35 N34 g_b3
                have A_a2_35 := A_a2_34.other W35 ne_a2_b3
                have A_b15_35 := A_b15_34.other W35 (Ne.symm ne_b3_b15)
                have A_b18_35 := A_b18_34.other W35 (Ne.symm ne_b3_b18)
                have A_b21_35 := A_b21_34.other W35 (Ne.symm ne_b3_b21)
                have A_b11_35 := A_b11_34.other W35 (Ne.symm ne_b3_b11)
                have A_b12_35 := A_b12_34.other W35 (Ne.symm ne_b3_b12)
                have Z35 := Nat.le_trans Z34 (Keep.of_wr W35).1
                have KK35 : Keep h0 h35 [] := KK34.wr W35 (Or.inr sz_b3)
                have A_b3_35 : Ary Z h35 b3 .int 4 (fun i => .int ((upA (upA (degF ee kk) 0 (((degF ee kk) 0) + (1 : Int32))) 2 (((degF ee kk) 2) + (1 : Int32))) i)) := A_b3_34.setI W35 (by decide)
                show Go p e below _ (T35.setTop (mkF m 157 _ [(.int ((degF ee kk) 2)), (.ref b18)]))
                refine gJ (q := 159) X35 hx (hb hby d4_157) rfl rfl ?_
                obtain ⟨cl36, Ar36, in36, -⟩ := A_b18_35.hin (j := ((degF ee kk) 2)) (degB hTen (ltB hkl hq (by decide))).1 (degB hTen (ltB hkl hq (by decide))).2
                obtain ⟨T36, h36, X36, e36, W36, st36⟩ := stI X35 hx hZ e35 Ar36 in36 (g := (mkF m 159 #[.val (.int (4 : Int32)), .val (.ref a2), .val (.ref b3), .val (.ref b11), .val (.ref a2), .val (.int ee.length.toInt32), .val (.int (Int32.ofNat kk)), .val (.long (enc (0, 2))), .second, .val (.int (0 : Int32)), .val (.int (2 : Int32))] [(.int (0 : Int32)), (.int ((degF ee kk) 2)), (.ref b18)])) rfl rfl (hb hby d4_159)
                refine Go.step st36 ?_
                have N36 := Fr.snoc X36 N35 g_b18
                have A_a2_36 := A_a2_35.other W36 ne_a2_b18
                have A_b15_36 := A_b15_35.other W36 ne_b15_b18
                have A_b21_36 := A_b21_35.other W36 (Ne.symm ne_b18_b21)
                have A_b11_36 := A_b11_35.other W36 ne_b11_b18
                have A_b12_36 := A_b12_35.other W36 ne_b12_b18
                have A_b3_36 := A_b3_35.other W36 ne_b3_b18
                have Z36 := Nat.le_trans Z35 (Keep.of_wr W36).1
                have KK36 : Keep h0 h36 [] := KK35.wr W36 (Or.inr sz_b18)
                have A_b18_36 : Ary Z h36 b18 .int (nb ee 2).length (fun i => .int ((upA (rowF (nb (ee.take kk) 2)) ((degF ee kk) 2).toNatClampNeg (0 : Int32)) i)) := A_b18_35.setI W36 (degB hTen (ltB hkl hq (by decide))).2
                show Go p e below _ (T36.setTop (mkF m 160 _ []))
                refine Go.step (fun t k => XS.iinc X36.here hx rfl (hb hby d4_160) rfl (l' := #[.val (.int (4 : Int32)), .val (.ref a2), .val (.ref b3), .val (.ref b11), .val (.ref a2), .val (.int ee.length.toInt32), .val (.int ((Int32.ofNat kk) + (1 : Int32))), .val (.long (enc (0, 2))), .second, .val (.int (0 : Int32)), .val (.int (2 : Int32))]) rfl k) ?_
                show Go p e below _ (T36.setTop (mkF m 163 _ []))
                refine Go.step (fun t k => XS.goto X36.here hx rfl (pc0 := 163) (pc' := 100) rfl (hb hby d4_163) (by decide) (by decide) k) ?_
                show Go p e below _ (T36.setTop (mkF m 100 _ []))
                show Go p e below _ (T36.setTop (mkF m 100 _ []))
                rw [succ32]
                exact ih _ (by omega) (kk + 1) _ (One.val rfl) _ (One.val rfl) _ _ Two.v _ _ _ rfl (by omega) X36 N36 e36 KK36 Z36 A_a2_36 (A_b12_36.congr fun q _ => congrArg Value.int (rowA hTen hkl hq (by decide) q)) (A_b15_36.congr fun q _ => congrArg Value.int (by rw [nbC hkl hq (by decide) (by decide)])) (A_b18_36.congr fun q _ => congrArg Value.int (rowB hTen hkl hq (by decide) (by decide) q)) (A_b21_36.congr fun q _ => congrArg Value.int (by rw [nbC hkl hq (by decide) (by decide)])) A_b11_36 (A_b3_36.congr fun i _ => congrArg Value.int (degS hkl hq (by decide) i))
              · skip
                show Go p e below _ (T28.setTop (mkF m 128 #[.val (.int (4 : Int32)), .val (.ref a2), .val (.ref b3), .val (.ref b11), .val (.ref a2), .val (.int ee.length.toInt32), .val (.int (Int32.ofNat kk)), .val (.long (enc (0, 3))), .second, .val (.int (0 : Int32)), .val (.int (3 : Int32))] []))
                refine gA (q := 129) X28 hx (hb hby d4_128) rfl rfl rfl ?_
                refine gJ (q := 131) X28 hx (hb hby d4_129) rfl rfl ?_
                refine Go.step (ldR X28 hx hZ e28 A_b11_l24.ary rfl (j := (0 : Int32)) (by decide) (by decide) (g := (mkF m 131 _ [(.int (0 : Int32)), (.ref b11)])) rfl rfl (hb hby d4_131)) ?_
                show Go p e below _ (T28.setTop (mkF m 132 _ [(.ref b12)]))
                refine gA (q := 133) X28 hx (hb hby d4_132) rfl rfl rfl ?_
                refine gJ (q := 135) X28 hx (hb hby d4_133) rfl rfl ?_
                refine Go.step (S' := T28.setTop (mkF m 136 #[.val (.int (4 : Int32)), .val (.ref a2), .val (.ref b3), .val (.ref b11), .val (.ref a2), .val (.int ee.length.toInt32), .val (.int (Int32.ofNat kk)), .val (.long (enc (0, 3))), .second, .val (.int (0 : Int32)), .val (.int (3 : Int32))] [(.int (0 : Int32)), (.ref b3), (.int (0 : Int32)), (.ref b3), (.ref b12)])) (fun t k => ?_) ?_
                · jvm_step X28.here [X28.here.top, hx, (hb hby d4_135), Value.category]
                  exact k
                show Go p e below _ (T28.setTop (mkF m 136 _ [(.int (0 : Int32)), (.ref b3), (.int (0 : Int32)), (.ref b3), (.ref b12)]))
                refine Go.step (ldI X28 hx hZ e28 A_b3_l24 (j := (0 : Int32)) (by decide) (by decide) (g := (mkF m 136 _ [(.int (0 : Int32)), (.ref b3), (.int (0 : Int32)), (.ref b3), (.ref b12)])) rfl rfl (hb hby d4_136)) ?_
                show Go p e below _ (T28.setTop (mkF m 137 _ [(.int ((degF ee kk) 0)), (.int (0 : Int32)), (.ref b3), (.ref b12)]))
                refine Go.step (S' := T28.setTop (mkF m 138 #[.val (.int (4 : Int32)), .val (.ref a2), .val (.ref b3), .val (.ref b11), .val (.ref a2), .val (.int ee.length.toInt32), .val (.int (Int32.ofNat kk)), .val (.long (enc (0, 3))), .second, .val (.int (0 : Int32)), .val (.int (3 : Int32))] [(.int ((degF ee kk) 0)), (.int (0 : Int32)), (.ref b3), (.int ((degF ee kk) 0)), (.ref b12)])) (fun t k => ?_) ?_
                · jvm_step X28.here [X28.here.top, hx, (hb hby d4_137), Value.category]
                  exact k
                show Go p e below _ (T28.setTop (mkF m 138 _ [(.int ((degF ee kk) 0)), (.int (0 : Int32)), (.ref b3), (.int ((degF ee kk) 0)), (.ref b12)]))
                refine gC (q := 139) (v := 1) X28 hx (hb hby d4_138) rfl rfl ?_
                refine Go.step (fun t k => XS.iadd X28.here hx rfl (hb hby d4_139) rfl k) ?_
                show Go p e below _ (T28.setTop (mkF m 140 _ [(.int (((degF ee kk) 0) + (1 : Int32))), (.int (0 : Int32)), (.ref b3), (.int ((degF ee kk) 0)), (.ref b12)]))
                obtain ⟨cl37, Ar37, in37, -⟩ := A_b3_l24.hin (j := (0 : Int32)) (by decide) (by decide)
                obtain ⟨T37, h37, X37, e37, W37, st37⟩ := stI X28 hx hZ e28 Ar37 in37 (g := (mkF m 140 #[.val (.int (4 : Int32)), .val (.ref a2), .val (.ref b3), .val (.ref b11), .val (.ref a2), .val (.int ee.length.toInt32), .val (.int (Int32.ofNat kk)), .val (.long (enc (0, 3))), .second, .val (.int (0 : Int32)), .val (.int (3 : Int32))] [(.int (((degF ee kk) 0) + (1 : Int32))), (.int (0 : Int32)), (.ref b3), (.int ((degF ee kk) 0)), (.ref b12)])) rfl rfl (hb hby d4_140)
                refine Go.step st37 ?_
                have N37 := Fr.snoc X37 N28 g_b3
                have A_a2_37 := A_a2_l24.other W37 ne_a2_b3
                have A_b12_37 := A_b12_l24.other W37 (Ne.symm ne_b3_b12)
                have A_b15_37 := A_b15_l24.other W37 (Ne.symm ne_b3_b15)
                have A_b18_37 := A_b18_l24.other W37 (Ne.symm ne_b3_b18)
                have A_b21_37 := A_b21_l24.other W37 (Ne.symm ne_b3_b21)
                have A_b11_37 := A_b11_l24.other W37 (Ne.symm ne_b3_b11)
                have Z37 := Nat.le_trans Zl24 (Keep.of_wr W37).1
                have KK37 : Keep h0 h37 [] := KKl24.wr W37 (Or.inr sz_b3)
                have A_b3_37 : Ary Z h37 b3 .int 4 (fun i => .int ((upA (degF ee kk) 0 (((degF ee kk) 0) + (1 : Int32))) i)) := A_b3_l24.setI W37 (by decide)
                show Go p e below _ (T37.setTop (mkF m 141 _ [(.int ((degF ee kk) 0)), (.ref b12)]))
                refine gJ (q := 143) X37 hx (hb hby d4_141) rfl rfl ?_
                obtain ⟨cl38, Ar38, in38, -⟩ := A_b12_37.hin (j := ((degF ee kk) 0)) (degB hTen (ltA hkl hq)).1 (degB hTen (ltA hkl hq)).2
                obtain ⟨T38, h38, X38, e38, W38, st38⟩ := stI X37 hx hZ e37 Ar38 in38 (g := (mkF m 143 #[.val (.int (4 : Int32)), .val (.ref a2), .val (.ref b3), .val (.ref b11), .val (.ref a2), .val (.int ee.length.toInt32), .val (.int (Int32.ofNat kk)), .val (.long (enc (0, 3))), .second, .val (.int (0 : Int32)), .val (.int (3 : Int32))] [(.int (3 : Int32)), (.int ((degF ee kk) 0)), (.ref b12)])) rfl rfl (hb hby d4_143)
                refine Go.step st38 ?_
                have N38 := Fr.snoc X38 N37 g_b12
                have A_a2_38 := A_a2_37.other W38 ne_a2_b12
                have A_b15_38 := A_b15_37.other W38 (Ne.symm ne_b12_b15)
                have A_b18_38 := A_b18_37.other W38 (Ne.symm ne_b12_b18)
                have A_b21_38 := A_b21_37.other W38 (Ne.symm ne_b12_b21)
                have A_b11_38 := A_b11_37.other W38 ne_b11_b12
                have A_b3_38 := A_b3_37.other W38 ne_b3_b12
                have Z38 := Nat.le_trans Z37 (Keep.of_wr W38).1
                have KK38 : Keep h0 h38 [] := KK37.wr W38 (Or.inr sz_b12)
                have A_b12_38 : Ary Z h38 b12 .int (nb ee 0).length (fun i => .int ((upA (rowF (nb (ee.take kk) 0)) ((degF ee kk) 0).toNatClampNeg (3 : Int32)) i)) := A_b12_37.setI W38 (degB hTen (ltA hkl hq)).2
                show Go p e below _ (T38.setTop (mkF m 144 _ []))
                refine gA (q := 145) X38 hx (hb hby d4_144) rfl rfl rfl ?_
                refine gJ (q := 147) X38 hx (hb hby d4_145) rfl rfl ?_
                refine Go.step (ldR X38 hx hZ e38 A_b11_38.ary rfl (j := (3 : Int32)) (by decide) (by decide) (g := (mkF m 147 _ [(.int (3 : Int32)), (.ref b11)])) rfl rfl (hb hby d4_147)) ?_
                show Go p e below _ (T38.setTop (mkF m 148 _ [(.ref b21)]))
                refine gA (q := 149) X38 hx (hb hby d4_148) rfl rfl rfl ?_
                refine gJ (q := 151) X38 hx (hb hby d4_149) rfl rfl ?_
                refine Go.step (S' := T38.setTop (mkF m 152 #[.val (.int (4 : Int32)), .val (.ref a2), .val (.ref b3), .val (.ref b11), .val (.ref a2), .val (.int ee.length.toInt32), .val (.int (Int32.ofNat kk)), .val (.long (enc (0, 3))), .second, .val (.int (0 : Int32)), .val (.int (3 : Int32))] [(.int (3 : Int32)), (.ref b3), (.int (3 : Int32)), (.ref b3), (.ref b21)])) (fun t k => ?_) ?_
                · jvm_step X38.here [X38.here.top, hx, (hb hby d4_151), Value.category]
                  exact k
                show Go p e below _ (T38.setTop (mkF m 152 _ [(.int (3 : Int32)), (.ref b3), (.int (3 : Int32)), (.ref b3), (.ref b21)]))
                refine Go.step (ldI X38 hx hZ e38 A_b3_38 (j := (3 : Int32)) (by decide) (by decide) (g := (mkF m 152 _ [(.int (3 : Int32)), (.ref b3), (.int (3 : Int32)), (.ref b3), (.ref b21)])) rfl rfl (hb hby d4_152)) ?_
                show Go p e below _ (T38.setTop (mkF m 153 _ [(.int ((degF ee kk) 3)), (.int (3 : Int32)), (.ref b3), (.ref b21)]))
                refine Go.step (S' := T38.setTop (mkF m 154 #[.val (.int (4 : Int32)), .val (.ref a2), .val (.ref b3), .val (.ref b11), .val (.ref a2), .val (.int ee.length.toInt32), .val (.int (Int32.ofNat kk)), .val (.long (enc (0, 3))), .second, .val (.int (0 : Int32)), .val (.int (3 : Int32))] [(.int ((degF ee kk) 3)), (.int (3 : Int32)), (.ref b3), (.int ((degF ee kk) 3)), (.ref b21)])) (fun t k => ?_) ?_
                · jvm_step X38.here [X38.here.top, hx, (hb hby d4_153), Value.category]
                  exact k
                show Go p e below _ (T38.setTop (mkF m 154 _ [(.int ((degF ee kk) 3)), (.int (3 : Int32)), (.ref b3), (.int ((degF ee kk) 3)), (.ref b21)]))
                refine gC (q := 155) (v := 1) X38 hx (hb hby d4_154) rfl rfl ?_
                refine Go.step (fun t k => XS.iadd X38.here hx rfl (hb hby d4_155) rfl k) ?_
                show Go p e below _ (T38.setTop (mkF m 156 _ [(.int (((degF ee kk) 3) + (1 : Int32))), (.int (3 : Int32)), (.ref b3), (.int ((degF ee kk) 3)), (.ref b21)]))
                obtain ⟨cl39, Ar39, in39, -⟩ := A_b3_38.hin (j := (3 : Int32)) (by decide) (by decide)
                obtain ⟨T39, h39, X39, e39, W39, st39⟩ := stI X38 hx hZ e38 Ar39 in39 (g := (mkF m 156 #[.val (.int (4 : Int32)), .val (.ref a2), .val (.ref b3), .val (.ref b11), .val (.ref a2), .val (.int ee.length.toInt32), .val (.int (Int32.ofNat kk)), .val (.long (enc (0, 3))), .second, .val (.int (0 : Int32)), .val (.int (3 : Int32))] [(.int (((degF ee kk) 3) + (1 : Int32))), (.int (3 : Int32)), (.ref b3), (.int ((degF ee kk) 3)), (.ref b21)])) rfl rfl (hb hby d4_156)
                refine Go.step st39 ?_
                have N39 := Fr.snoc X39 N38 g_b3
                have A_a2_39 := A_a2_38.other W39 ne_a2_b3
                have A_b15_39 := A_b15_38.other W39 (Ne.symm ne_b3_b15)
                have A_b18_39 := A_b18_38.other W39 (Ne.symm ne_b3_b18)
                have A_b21_39 := A_b21_38.other W39 (Ne.symm ne_b3_b21)
                have A_b11_39 := A_b11_38.other W39 (Ne.symm ne_b3_b11)
                have A_b12_39 := A_b12_38.other W39 (Ne.symm ne_b3_b12)
                have Z39 := Nat.le_trans Z38 (Keep.of_wr W39).1
                have KK39 : Keep h0 h39 [] := KK38.wr W39 (Or.inr sz_b3)
                have A_b3_39 : Ary Z h39 b3 .int 4 (fun i => .int ((upA (upA (degF ee kk) 0 (((degF ee kk) 0) + (1 : Int32))) 3 (((degF ee kk) 3) + (1 : Int32))) i)) := A_b3_38.setI W39 (by decide)
                show Go p e below _ (T39.setTop (mkF m 157 _ [(.int ((degF ee kk) 3)), (.ref b21)]))
                refine gJ (q := 159) X39 hx (hb hby d4_157) rfl rfl ?_
                obtain ⟨cl40, Ar40, in40, -⟩ := A_b21_39.hin (j := ((degF ee kk) 3)) (degB hTen (ltB hkl hq (by decide))).1 (degB hTen (ltB hkl hq (by decide))).2
                obtain ⟨T40, h40, X40, e40, W40, st40⟩ := stI X39 hx hZ e39 Ar40 in40 (g := (mkF m 159 #[.val (.int (4 : Int32)), .val (.ref a2), .val (.ref b3), .val (.ref b11), .val (.ref a2), .val (.int ee.length.toInt32), .val (.int (Int32.ofNat kk)), .val (.long (enc (0, 3))), .second, .val (.int (0 : Int32)), .val (.int (3 : Int32))] [(.int (0 : Int32)), (.int ((degF ee kk) 3)), (.ref b21)])) rfl rfl (hb hby d4_159)
                refine Go.step st40 ?_
                have N40 := Fr.snoc X40 N39 g_b21
                have A_a2_40 := A_a2_39.other W40 ne_a2_b21
                have A_b15_40 := A_b15_39.other W40 ne_b15_b21
                have A_b18_40 := A_b18_39.other W40 ne_b18_b21
                have A_b11_40 := A_b11_39.other W40 ne_b11_b21
                have A_b12_40 := A_b12_39.other W40 ne_b12_b21
                have A_b3_40 := A_b3_39.other W40 ne_b3_b21
                have Z40 := Nat.le_trans Z39 (Keep.of_wr W40).1
                have KK40 : Keep h0 h40 [] := KK39.wr W40 (Or.inr sz_b21)
                have A_b21_40 : Ary Z h40 b21 .int (nb ee 3).length (fun i => .int ((upA (rowF (nb (ee.take kk) 3)) ((degF ee kk) 3).toNatClampNeg (0 : Int32)) i)) := A_b21_39.setI W40 (degB hTen (ltB hkl hq (by decide))).2
                show Go p e below _ (T40.setTop (mkF m 160 _ []))
                refine Go.step (fun t k => XS.iinc X40.here hx rfl (hb hby d4_160) rfl (l' := #[.val (.int (4 : Int32)), .val (.ref a2), .val (.ref b3), .val (.ref b11), .val (.ref a2), .val (.int ee.length.toInt32), .val (.int ((Int32.ofNat kk) + (1 : Int32))), .val (.long (enc (0, 3))), .second, .val (.int (0 : Int32)), .val (.int (3 : Int32))]) rfl k) ?_
                show Go p e below _ (T40.setTop (mkF m 163 _ []))
                refine Go.step (fun t k => XS.goto X40.here hx rfl (pc0 := 163) (pc' := 100) rfl (hb hby d4_163) (by decide) (by decide) k) ?_
                show Go p e below _ (T40.setTop (mkF m 100 _ []))
                show Go p e below _ (T40.setTop (mkF m 100 _ []))
                rw [succ32]
                exact ih _ (by omega) (kk + 1) _ (One.val rfl) _ (One.val rfl) _ _ Two.v _ _ _ rfl (by omega) X40 N40 e40 KK40 Z40 A_a2_40 (A_b12_40.congr fun q _ => congrArg Value.int (rowA hTen hkl hq (by decide) q)) (A_b15_40.congr fun q _ => congrArg Value.int (by rw [nbC hkl hq (by decide) (by decide)])) (A_b18_40.congr fun q _ => congrArg Value.int (by rw [nbC hkl hq (by decide) (by decide)])) (A_b21_40.congr fun q _ => congrArg Value.int (rowB hTen hkl hq (by decide) (by decide) q)) A_b11_40 (A_b3_40.congr fun i _ => congrArg Value.int (degS hkl hq (by decide) i))
              · skip
                show Go p e below _ (T28.setTop (mkF m 128 #[.val (.int (4 : Int32)), .val (.ref a2), .val (.ref b3), .val (.ref b11), .val (.ref a2), .val (.int ee.length.toInt32), .val (.int (Int32.ofNat kk)), .val (.long (enc (1, 2))), .second, .val (.int (1 : Int32)), .val (.int (2 : Int32))] []))
                refine gA (q := 129) X28 hx (hb hby d4_128) rfl rfl rfl ?_
                refine gJ (q := 131) X28 hx (hb hby d4_129) rfl rfl ?_
                refine Go.step (ldR X28 hx hZ e28 A_b11_l24.ary rfl (j := (1 : Int32)) (by decide) (by decide) (g := (mkF m 131 _ [(.int (1 : Int32)), (.ref b11)])) rfl rfl (hb hby d4_131)) ?_
                show Go p e below _ (T28.setTop (mkF m 132 _ [(.ref b15)]))
                refine gA (q := 133) X28 hx (hb hby d4_132) rfl rfl rfl ?_
                refine gJ (q := 135) X28 hx (hb hby d4_133) rfl rfl ?_
                refine Go.step (S' := T28.setTop (mkF m 136 #[.val (.int (4 : Int32)), .val (.ref a2), .val (.ref b3), .val (.ref b11), .val (.ref a2), .val (.int ee.length.toInt32), .val (.int (Int32.ofNat kk)), .val (.long (enc (1, 2))), .second, .val (.int (1 : Int32)), .val (.int (2 : Int32))] [(.int (1 : Int32)), (.ref b3), (.int (1 : Int32)), (.ref b3), (.ref b15)])) (fun t k => ?_) ?_
                · jvm_step X28.here [X28.here.top, hx, (hb hby d4_135), Value.category]
                  exact k
                show Go p e below _ (T28.setTop (mkF m 136 _ [(.int (1 : Int32)), (.ref b3), (.int (1 : Int32)), (.ref b3), (.ref b15)]))
                refine Go.step (ldI X28 hx hZ e28 A_b3_l24 (j := (1 : Int32)) (by decide) (by decide) (g := (mkF m 136 _ [(.int (1 : Int32)), (.ref b3), (.int (1 : Int32)), (.ref b3), (.ref b15)])) rfl rfl (hb hby d4_136)) ?_
                show Go p e below _ (T28.setTop (mkF m 137 _ [(.int ((degF ee kk) 1)), (.int (1 : Int32)), (.ref b3), (.ref b15)]))
                refine Go.step (S' := T28.setTop (mkF m 138 #[.val (.int (4 : Int32)), .val (.ref a2), .val (.ref b3), .val (.ref b11), .val (.ref a2), .val (.int ee.length.toInt32), .val (.int (Int32.ofNat kk)), .val (.long (enc (1, 2))), .second, .val (.int (1 : Int32)), .val (.int (2 : Int32))] [(.int ((degF ee kk) 1)), (.int (1 : Int32)), (.ref b3), (.int ((degF ee kk) 1)), (.ref b15)])) (fun t k => ?_) ?_
                · jvm_step X28.here [X28.here.top, hx, (hb hby d4_137), Value.category]
                  exact k
                show Go p e below _ (T28.setTop (mkF m 138 _ [(.int ((degF ee kk) 1)), (.int (1 : Int32)), (.ref b3), (.int ((degF ee kk) 1)), (.ref b15)]))
                refine gC (q := 139) (v := 1) X28 hx (hb hby d4_138) rfl rfl ?_
                refine Go.step (fun t k => XS.iadd X28.here hx rfl (hb hby d4_139) rfl k) ?_
                show Go p e below _ (T28.setTop (mkF m 140 _ [(.int (((degF ee kk) 1) + (1 : Int32))), (.int (1 : Int32)), (.ref b3), (.int ((degF ee kk) 1)), (.ref b15)]))
                obtain ⟨cl41, Ar41, in41, -⟩ := A_b3_l24.hin (j := (1 : Int32)) (by decide) (by decide)
                obtain ⟨T41, h41, X41, e41, W41, st41⟩ := stI X28 hx hZ e28 Ar41 in41 (g := (mkF m 140 #[.val (.int (4 : Int32)), .val (.ref a2), .val (.ref b3), .val (.ref b11), .val (.ref a2), .val (.int ee.length.toInt32), .val (.int (Int32.ofNat kk)), .val (.long (enc (1, 2))), .second, .val (.int (1 : Int32)), .val (.int (2 : Int32))] [(.int (((degF ee kk) 1) + (1 : Int32))), (.int (1 : Int32)), (.ref b3), (.int ((degF ee kk) 1)), (.ref b15)])) rfl rfl (hb hby d4_140)
                refine Go.step st41 ?_
                have N41 := Fr.snoc X41 N28 g_b3
                have A_a2_41 := A_a2_l24.other W41 ne_a2_b3
                have A_b12_41 := A_b12_l24.other W41 (Ne.symm ne_b3_b12)
                have A_b15_41 := A_b15_l24.other W41 (Ne.symm ne_b3_b15)
                have A_b18_41 := A_b18_l24.other W41 (Ne.symm ne_b3_b18)
                have A_b21_41 := A_b21_l24.other W41 (Ne.symm ne_b3_b21)
                have A_b11_41 := A_b11_l24.other W41 (Ne.symm ne_b3_b11)
                have Z41 := Nat.le_trans Zl24 (Keep.of_wr W41).1
                have KK41 : Keep h0 h41 [] := KKl24.wr W41 (Or.inr sz_b3)
                have A_b3_41 : Ary Z h41 b3 .int 4 (fun i => .int ((upA (degF ee kk) 1 (((degF ee kk) 1) + (1 : Int32))) i)) := A_b3_l24.setI W41 (by decide)
                show Go p e below _ (T41.setTop (mkF m 141 _ [(.int ((degF ee kk) 1)), (.ref b15)]))
                refine gJ (q := 143) X41 hx (hb hby d4_141) rfl rfl ?_
                obtain ⟨cl42, Ar42, in42, -⟩ := A_b15_41.hin (j := ((degF ee kk) 1)) (degB hTen (ltA hkl hq)).1 (degB hTen (ltA hkl hq)).2
                obtain ⟨T42, h42, X42, e42, W42, st42⟩ := stI X41 hx hZ e41 Ar42 in42 (g := (mkF m 143 #[.val (.int (4 : Int32)), .val (.ref a2), .val (.ref b3), .val (.ref b11), .val (.ref a2), .val (.int ee.length.toInt32), .val (.int (Int32.ofNat kk)), .val (.long (enc (1, 2))), .second, .val (.int (1 : Int32)), .val (.int (2 : Int32))] [(.int (2 : Int32)), (.int ((degF ee kk) 1)), (.ref b15)])) rfl rfl (hb hby d4_143)
                refine Go.step st42 ?_
                have N42 := Fr.snoc X42 N41 g_b15
                have A_a2_42 := A_a2_41.other W42 ne_a2_b15
                have A_b12_42 := A_b12_41.other W42 ne_b12_b15
                have A_b18_42 := A_b18_41.other W42 (Ne.symm ne_b15_b18)
                have A_b21_42 := A_b21_41.other W42 (Ne.symm ne_b15_b21)
                have A_b11_42 := A_b11_41.other W42 ne_b11_b15
                have A_b3_42 := A_b3_41.other W42 ne_b3_b15
                have Z42 := Nat.le_trans Z41 (Keep.of_wr W42).1
                have KK42 : Keep h0 h42 [] := KK41.wr W42 (Or.inr sz_b15)
                have A_b15_42 : Ary Z h42 b15 .int (nb ee 1).length (fun i => .int ((upA (rowF (nb (ee.take kk) 1)) ((degF ee kk) 1).toNatClampNeg (2 : Int32)) i)) := A_b15_41.setI W42 (degB hTen (ltA hkl hq)).2
                show Go p e below _ (T42.setTop (mkF m 144 _ []))
                refine gA (q := 145) X42 hx (hb hby d4_144) rfl rfl rfl ?_
                refine gJ (q := 147) X42 hx (hb hby d4_145) rfl rfl ?_
                refine Go.step (ldR X42 hx hZ e42 A_b11_42.ary rfl (j := (2 : Int32)) (by decide) (by decide) (g := (mkF m 147 _ [(.int (2 : Int32)), (.ref b11)])) rfl rfl (hb hby d4_147)) ?_
                show Go p e below _ (T42.setTop (mkF m 148 _ [(.ref b18)]))
                refine gA (q := 149) X42 hx (hb hby d4_148) rfl rfl rfl ?_
                refine gJ (q := 151) X42 hx (hb hby d4_149) rfl rfl ?_
                refine Go.step (S' := T42.setTop (mkF m 152 #[.val (.int (4 : Int32)), .val (.ref a2), .val (.ref b3), .val (.ref b11), .val (.ref a2), .val (.int ee.length.toInt32), .val (.int (Int32.ofNat kk)), .val (.long (enc (1, 2))), .second, .val (.int (1 : Int32)), .val (.int (2 : Int32))] [(.int (2 : Int32)), (.ref b3), (.int (2 : Int32)), (.ref b3), (.ref b18)])) (fun t k => ?_) ?_
                · jvm_step X42.here [X42.here.top, hx, (hb hby d4_151), Value.category]
                  exact k
                show Go p e below _ (T42.setTop (mkF m 152 _ [(.int (2 : Int32)), (.ref b3), (.int (2 : Int32)), (.ref b3), (.ref b18)]))
                refine Go.step (ldI X42 hx hZ e42 A_b3_42 (j := (2 : Int32)) (by decide) (by decide) (g := (mkF m 152 _ [(.int (2 : Int32)), (.ref b3), (.int (2 : Int32)), (.ref b3), (.ref b18)])) rfl rfl (hb hby d4_152)) ?_
                show Go p e below _ (T42.setTop (mkF m 153 _ [(.int ((degF ee kk) 2)), (.int (2 : Int32)), (.ref b3), (.ref b18)]))
                refine Go.step (S' := T42.setTop (mkF m 154 #[.val (.int (4 : Int32)), .val (.ref a2), .val (.ref b3), .val (.ref b11), .val (.ref a2), .val (.int ee.length.toInt32), .val (.int (Int32.ofNat kk)), .val (.long (enc (1, 2))), .second, .val (.int (1 : Int32)), .val (.int (2 : Int32))] [(.int ((degF ee kk) 2)), (.int (2 : Int32)), (.ref b3), (.int ((degF ee kk) 2)), (.ref b18)])) (fun t k => ?_) ?_
                · jvm_step X42.here [X42.here.top, hx, (hb hby d4_153), Value.category]
                  exact k
                show Go p e below _ (T42.setTop (mkF m 154 _ [(.int ((degF ee kk) 2)), (.int (2 : Int32)), (.ref b3), (.int ((degF ee kk) 2)), (.ref b18)]))
                refine gC (q := 155) (v := 1) X42 hx (hb hby d4_154) rfl rfl ?_
                refine Go.step (fun t k => XS.iadd X42.here hx rfl (hb hby d4_155) rfl k) ?_
                show Go p e below _ (T42.setTop (mkF m 156 _ [(.int (((degF ee kk) 2) + (1 : Int32))), (.int (2 : Int32)), (.ref b3), (.int ((degF ee kk) 2)), (.ref b18)]))
                obtain ⟨cl43, Ar43, in43, -⟩ := A_b3_42.hin (j := (2 : Int32)) (by decide) (by decide)
                obtain ⟨T43, h43, X43, e43, W43, st43⟩ := stI X42 hx hZ e42 Ar43 in43 (g := (mkF m 156 #[.val (.int (4 : Int32)), .val (.ref a2), .val (.ref b3), .val (.ref b11), .val (.ref a2), .val (.int ee.length.toInt32), .val (.int (Int32.ofNat kk)), .val (.long (enc (1, 2))), .second, .val (.int (1 : Int32)), .val (.int (2 : Int32))] [(.int (((degF ee kk) 2) + (1 : Int32))), (.int (2 : Int32)), (.ref b3), (.int ((degF ee kk) 2)), (.ref b18)])) rfl rfl (hb hby d4_156)
                refine Go.step st43 ?_
                have N43 := Fr.snoc X43 N42 g_b3
                have A_a2_43 := A_a2_42.other W43 ne_a2_b3
                have A_b12_43 := A_b12_42.other W43 (Ne.symm ne_b3_b12)
                have A_b18_43 := A_b18_42.other W43 (Ne.symm ne_b3_b18)
                have A_b21_43 := A_b21_42.other W43 (Ne.symm ne_b3_b21)
                have A_b11_43 := A_b11_42.other W43 (Ne.symm ne_b3_b11)
                have A_b15_43 := A_b15_42.other W43 (Ne.symm ne_b3_b15)
                have Z43 := Nat.le_trans Z42 (Keep.of_wr W43).1
                have KK43 : Keep h0 h43 [] := KK42.wr W43 (Or.inr sz_b3)
                have A_b3_43 : Ary Z h43 b3 .int 4 (fun i => .int ((upA (upA (degF ee kk) 1 (((degF ee kk) 1) + (1 : Int32))) 2 (((degF ee kk) 2) + (1 : Int32))) i)) := A_b3_42.setI W43 (by decide)
                show Go p e below _ (T43.setTop (mkF m 157 _ [(.int ((degF ee kk) 2)), (.ref b18)]))
                refine gJ (q := 159) X43 hx (hb hby d4_157) rfl rfl ?_
                obtain ⟨cl44, Ar44, in44, -⟩ := A_b18_43.hin (j := ((degF ee kk) 2)) (degB hTen (ltB hkl hq (by decide))).1 (degB hTen (ltB hkl hq (by decide))).2
                obtain ⟨T44, h44, X44, e44, W44, st44⟩ := stI X43 hx hZ e43 Ar44 in44 (g := (mkF m 159 #[.val (.int (4 : Int32)), .val (.ref a2), .val (.ref b3), .val (.ref b11), .val (.ref a2), .val (.int ee.length.toInt32), .val (.int (Int32.ofNat kk)), .val (.long (enc (1, 2))), .second, .val (.int (1 : Int32)), .val (.int (2 : Int32))] [(.int (1 : Int32)), (.int ((degF ee kk) 2)), (.ref b18)])) rfl rfl (hb hby d4_159)
                refine Go.step st44 ?_
                have N44 := Fr.snoc X44 N43 g_b18
                have A_a2_44 := A_a2_43.other W44 ne_a2_b18
                have A_b12_44 := A_b12_43.other W44 ne_b12_b18
                have A_b21_44 := A_b21_43.other W44 (Ne.symm ne_b18_b21)
                have A_b11_44 := A_b11_43.other W44 ne_b11_b18
                have A_b15_44 := A_b15_43.other W44 ne_b15_b18
                have A_b3_44 := A_b3_43.other W44 ne_b3_b18
                have Z44 := Nat.le_trans Z43 (Keep.of_wr W44).1
                have KK44 : Keep h0 h44 [] := KK43.wr W44 (Or.inr sz_b18)
                have A_b18_44 : Ary Z h44 b18 .int (nb ee 2).length (fun i => .int ((upA (rowF (nb (ee.take kk) 2)) ((degF ee kk) 2).toNatClampNeg (1 : Int32)) i)) := A_b18_43.setI W44 (degB hTen (ltB hkl hq (by decide))).2
                show Go p e below _ (T44.setTop (mkF m 160 _ []))
                refine Go.step (fun t k => XS.iinc X44.here hx rfl (hb hby d4_160) rfl (l' := #[.val (.int (4 : Int32)), .val (.ref a2), .val (.ref b3), .val (.ref b11), .val (.ref a2), .val (.int ee.length.toInt32), .val (.int ((Int32.ofNat kk) + (1 : Int32))), .val (.long (enc (1, 2))), .second, .val (.int (1 : Int32)), .val (.int (2 : Int32))]) rfl k) ?_
                show Go p e below _ (T44.setTop (mkF m 163 _ []))
                refine Go.step (fun t k => XS.goto X44.here hx rfl (pc0 := 163) (pc' := 100) rfl (hb hby d4_163) (by decide) (by decide) k) ?_
                show Go p e below _ (T44.setTop (mkF m 100 _ []))
                show Go p e below _ (T44.setTop (mkF m 100 _ []))
                rw [succ32]
                exact ih _ (by omega) (kk + 1) _ (One.val rfl) _ (One.val rfl) _ _ Two.v _ _ _ rfl (by omega) X44 N44 e44 KK44 Z44 A_a2_44 (A_b12_44.congr fun q _ => congrArg Value.int (by rw [nbC hkl hq (by decide) (by decide)])) (A_b15_44.congr fun q _ => congrArg Value.int (rowA hTen hkl hq (by decide) q)) (A_b18_44.congr fun q _ => congrArg Value.int (rowB hTen hkl hq (by decide) (by decide) q)) (A_b21_44.congr fun q _ => congrArg Value.int (by rw [nbC hkl hq (by decide) (by decide)])) A_b11_44 (A_b3_44.congr fun i _ => congrArg Value.int (degS hkl hq (by decide) i))
              · skip
                show Go p e below _ (T28.setTop (mkF m 128 #[.val (.int (4 : Int32)), .val (.ref a2), .val (.ref b3), .val (.ref b11), .val (.ref a2), .val (.int ee.length.toInt32), .val (.int (Int32.ofNat kk)), .val (.long (enc (1, 3))), .second, .val (.int (1 : Int32)), .val (.int (3 : Int32))] []))
                refine gA (q := 129) X28 hx (hb hby d4_128) rfl rfl rfl ?_
                refine gJ (q := 131) X28 hx (hb hby d4_129) rfl rfl ?_
                refine Go.step (ldR X28 hx hZ e28 A_b11_l24.ary rfl (j := (1 : Int32)) (by decide) (by decide) (g := (mkF m 131 _ [(.int (1 : Int32)), (.ref b11)])) rfl rfl (hb hby d4_131)) ?_
                show Go p e below _ (T28.setTop (mkF m 132 _ [(.ref b15)]))
                refine gA (q := 133) X28 hx (hb hby d4_132) rfl rfl rfl ?_
                refine gJ (q := 135) X28 hx (hb hby d4_133) rfl rfl ?_
                refine Go.step (S' := T28.setTop (mkF m 136 #[.val (.int (4 : Int32)), .val (.ref a2), .val (.ref b3), .val (.ref b11), .val (.ref a2), .val (.int ee.length.toInt32), .val (.int (Int32.ofNat kk)), .val (.long (enc (1, 3))), .second, .val (.int (1 : Int32)), .val (.int (3 : Int32))] [(.int (1 : Int32)), (.ref b3), (.int (1 : Int32)), (.ref b3), (.ref b15)])) (fun t k => ?_) ?_
                · jvm_step X28.here [X28.here.top, hx, (hb hby d4_135), Value.category]
                  exact k
                show Go p e below _ (T28.setTop (mkF m 136 _ [(.int (1 : Int32)), (.ref b3), (.int (1 : Int32)), (.ref b3), (.ref b15)]))
                refine Go.step (ldI X28 hx hZ e28 A_b3_l24 (j := (1 : Int32)) (by decide) (by decide) (g := (mkF m 136 _ [(.int (1 : Int32)), (.ref b3), (.int (1 : Int32)), (.ref b3), (.ref b15)])) rfl rfl (hb hby d4_136)) ?_
                show Go p e below _ (T28.setTop (mkF m 137 _ [(.int ((degF ee kk) 1)), (.int (1 : Int32)), (.ref b3), (.ref b15)]))
                refine Go.step (S' := T28.setTop (mkF m 138 #[.val (.int (4 : Int32)), .val (.ref a2), .val (.ref b3), .val (.ref b11), .val (.ref a2), .val (.int ee.length.toInt32), .val (.int (Int32.ofNat kk)), .val (.long (enc (1, 3))), .second, .val (.int (1 : Int32)), .val (.int (3 : Int32))] [(.int ((degF ee kk) 1)), (.int (1 : Int32)), (.ref b3), (.int ((degF ee kk) 1)), (.ref b15)])) (fun t k => ?_) ?_
                · jvm_step X28.here [X28.here.top, hx, (hb hby d4_137), Value.category]
                  exact k
                show Go p e below _ (T28.setTop (mkF m 138 _ [(.int ((degF ee kk) 1)), (.int (1 : Int32)), (.ref b3), (.int ((degF ee kk) 1)), (.ref b15)]))
                refine gC (q := 139) (v := 1) X28 hx (hb hby d4_138) rfl rfl ?_
                refine Go.step (fun t k => XS.iadd X28.here hx rfl (hb hby d4_139) rfl k) ?_
                show Go p e below _ (T28.setTop (mkF m 140 _ [(.int (((degF ee kk) 1) + (1 : Int32))), (.int (1 : Int32)), (.ref b3), (.int ((degF ee kk) 1)), (.ref b15)]))
                obtain ⟨cl45, Ar45, in45, -⟩ := A_b3_l24.hin (j := (1 : Int32)) (by decide) (by decide)
                obtain ⟨T45, h45, X45, e45, W45, st45⟩ := stI X28 hx hZ e28 Ar45 in45 (g := (mkF m 140 #[.val (.int (4 : Int32)), .val (.ref a2), .val (.ref b3), .val (.ref b11), .val (.ref a2), .val (.int ee.length.toInt32), .val (.int (Int32.ofNat kk)), .val (.long (enc (1, 3))), .second, .val (.int (1 : Int32)), .val (.int (3 : Int32))] [(.int (((degF ee kk) 1) + (1 : Int32))), (.int (1 : Int32)), (.ref b3), (.int ((degF ee kk) 1)), (.ref b15)])) rfl rfl (hb hby d4_140)
                refine Go.step st45 ?_
                have N45 := Fr.snoc X45 N28 g_b3
                have A_a2_45 := A_a2_l24.other W45 ne_a2_b3
                have A_b12_45 := A_b12_l24.other W45 (Ne.symm ne_b3_b12)
                have A_b15_45 := A_b15_l24.other W45 (Ne.symm ne_b3_b15)
                have A_b18_45 := A_b18_l24.other W45 (Ne.symm ne_b3_b18)
                have A_b21_45 := A_b21_l24.other W45 (Ne.symm ne_b3_b21)
                have A_b11_45 := A_b11_l24.other W45 (Ne.symm ne_b3_b11)
                have Z45 := Nat.le_trans Zl24 (Keep.of_wr W45).1
                have KK45 : Keep h0 h45 [] := KKl24.wr W45 (Or.inr sz_b3)
                have A_b3_45 : Ary Z h45 b3 .int 4 (fun i => .int ((upA (degF ee kk) 1 (((degF ee kk) 1) + (1 : Int32))) i)) := A_b3_l24.setI W45 (by decide)
                show Go p e below _ (T45.setTop (mkF m 141 _ [(.int ((degF ee kk) 1)), (.ref b15)]))
                refine gJ (q := 143) X45 hx (hb hby d4_141) rfl rfl ?_
                obtain ⟨cl46, Ar46, in46, -⟩ := A_b15_45.hin (j := ((degF ee kk) 1)) (degB hTen (ltA hkl hq)).1 (degB hTen (ltA hkl hq)).2
                obtain ⟨T46, h46, X46, e46, W46, st46⟩ := stI X45 hx hZ e45 Ar46 in46 (g := (mkF m 143 #[.val (.int (4 : Int32)), .val (.ref a2), .val (.ref b3), .val (.ref b11), .val (.ref a2), .val (.int ee.length.toInt32), .val (.int (Int32.ofNat kk)), .val (.long (enc (1, 3))), .second, .val (.int (1 : Int32)), .val (.int (3 : Int32))] [(.int (3 : Int32)), (.int ((degF ee kk) 1)), (.ref b15)])) rfl rfl (hb hby d4_143)
                refine Go.step st46 ?_
                have N46 := Fr.snoc X46 N45 g_b15
                have A_a2_46 := A_a2_45.other W46 ne_a2_b15
                have A_b12_46 := A_b12_45.other W46 ne_b12_b15
                have A_b18_46 := A_b18_45.other W46 (Ne.symm ne_b15_b18)
                have A_b21_46 := A_b21_45.other W46 (Ne.symm ne_b15_b21)
                have A_b11_46 := A_b11_45.other W46 ne_b11_b15
                have A_b3_46 := A_b3_45.other W46 ne_b3_b15
                have Z46 := Nat.le_trans Z45 (Keep.of_wr W46).1
                have KK46 : Keep h0 h46 [] := KK45.wr W46 (Or.inr sz_b15)
                have A_b15_46 : Ary Z h46 b15 .int (nb ee 1).length (fun i => .int ((upA (rowF (nb (ee.take kk) 1)) ((degF ee kk) 1).toNatClampNeg (3 : Int32)) i)) := A_b15_45.setI W46 (degB hTen (ltA hkl hq)).2
                show Go p e below _ (T46.setTop (mkF m 144 _ []))
                refine gA (q := 145) X46 hx (hb hby d4_144) rfl rfl rfl ?_
                refine gJ (q := 147) X46 hx (hb hby d4_145) rfl rfl ?_
                refine Go.step (ldR X46 hx hZ e46 A_b11_46.ary rfl (j := (3 : Int32)) (by decide) (by decide) (g := (mkF m 147 _ [(.int (3 : Int32)), (.ref b11)])) rfl rfl (hb hby d4_147)) ?_
                show Go p e below _ (T46.setTop (mkF m 148 _ [(.ref b21)]))
                refine gA (q := 149) X46 hx (hb hby d4_148) rfl rfl rfl ?_
                refine gJ (q := 151) X46 hx (hb hby d4_149) rfl rfl ?_
                refine Go.step (S' := T46.setTop (mkF m 152 #[.val (.int (4 : Int32)), .val (.ref a2), .val (.ref b3), .val (.ref b11), .val (.ref a2), .val (.int ee.length.toInt32), .val (.int (Int32.ofNat kk)), .val (.long (enc (1, 3))), .second, .val (.int (1 : Int32)), .val (.int (3 : Int32))] [(.int (3 : Int32)), (.ref b3), (.int (3 : Int32)), (.ref b3), (.ref b21)])) (fun t k => ?_) ?_
                · jvm_step X46.here [X46.here.top, hx, (hb hby d4_151), Value.category]
                  exact k
                show Go p e below _ (T46.setTop (mkF m 152 _ [(.int (3 : Int32)), (.ref b3), (.int (3 : Int32)), (.ref b3), (.ref b21)]))
                refine Go.step (ldI X46 hx hZ e46 A_b3_46 (j := (3 : Int32)) (by decide) (by decide) (g := (mkF m 152 _ [(.int (3 : Int32)), (.ref b3), (.int (3 : Int32)), (.ref b3), (.ref b21)])) rfl rfl (hb hby d4_152)) ?_
                show Go p e below _ (T46.setTop (mkF m 153 _ [(.int ((degF ee kk) 3)), (.int (3 : Int32)), (.ref b3), (.ref b21)]))
                refine Go.step (S' := T46.setTop (mkF m 154 #[.val (.int (4 : Int32)), .val (.ref a2), .val (.ref b3), .val (.ref b11), .val (.ref a2), .val (.int ee.length.toInt32), .val (.int (Int32.ofNat kk)), .val (.long (enc (1, 3))), .second, .val (.int (1 : Int32)), .val (.int (3 : Int32))] [(.int ((degF ee kk) 3)), (.int (3 : Int32)), (.ref b3), (.int ((degF ee kk) 3)), (.ref b21)])) (fun t k => ?_) ?_
                · jvm_step X46.here [X46.here.top, hx, (hb hby d4_153), Value.category]
                  exact k
                show Go p e below _ (T46.setTop (mkF m 154 _ [(.int ((degF ee kk) 3)), (.int (3 : Int32)), (.ref b3), (.int ((degF ee kk) 3)), (.ref b21)]))
                refine gC (q := 155) (v := 1) X46 hx (hb hby d4_154) rfl rfl ?_
                refine Go.step (fun t k => XS.iadd X46.here hx rfl (hb hby d4_155) rfl k) ?_
                show Go p e below _ (T46.setTop (mkF m 156 _ [(.int (((degF ee kk) 3) + (1 : Int32))), (.int (3 : Int32)), (.ref b3), (.int ((degF ee kk) 3)), (.ref b21)]))
                obtain ⟨cl47, Ar47, in47, -⟩ := A_b3_46.hin (j := (3 : Int32)) (by decide) (by decide)
                obtain ⟨T47, h47, X47, e47, W47, st47⟩ := stI X46 hx hZ e46 Ar47 in47 (g := (mkF m 156 #[.val (.int (4 : Int32)), .val (.ref a2), .val (.ref b3), .val (.ref b11), .val (.ref a2), .val (.int ee.length.toInt32), .val (.int (Int32.ofNat kk)), .val (.long (enc (1, 3))), .second, .val (.int (1 : Int32)), .val (.int (3 : Int32))] [(.int (((degF ee kk) 3) + (1 : Int32))), (.int (3 : Int32)), (.ref b3), (.int ((degF ee kk) 3)), (.ref b21)])) rfl rfl (hb hby d4_156)
                refine Go.step st47 ?_
                have N47 := Fr.snoc X47 N46 g_b3
                have A_a2_47 := A_a2_46.other W47 ne_a2_b3
                have A_b12_47 := A_b12_46.other W47 (Ne.symm ne_b3_b12)
                have A_b18_47 := A_b18_46.other W47 (Ne.symm ne_b3_b18)
                have A_b21_47 := A_b21_46.other W47 (Ne.symm ne_b3_b21)
                have A_b11_47 := A_b11_46.other W47 (Ne.symm ne_b3_b11)
                have A_b15_47 := A_b15_46.other W47 (Ne.symm ne_b3_b15)
                have Z47 := Nat.le_trans Z46 (Keep.of_wr W47).1
                have KK47 : Keep h0 h47 [] := KK46.wr W47 (Or.inr sz_b3)
                have A_b3_47 : Ary Z h47 b3 .int 4 (fun i => .int ((upA (upA (degF ee kk) 1 (((degF ee kk) 1) + (1 : Int32))) 3 (((degF ee kk) 3) + (1 : Int32))) i)) := A_b3_46.setI W47 (by decide)
                show Go p e below _ (T47.setTop (mkF m 157 _ [(.int ((degF ee kk) 3)), (.ref b21)]))
                refine gJ (q := 159) X47 hx (hb hby d4_157) rfl rfl ?_
                obtain ⟨cl48, Ar48, in48, -⟩ := A_b21_47.hin (j := ((degF ee kk) 3)) (degB hTen (ltB hkl hq (by decide))).1 (degB hTen (ltB hkl hq (by decide))).2
                obtain ⟨T48, h48, X48, e48, W48, st48⟩ := stI X47 hx hZ e47 Ar48 in48 (g := (mkF m 159 #[.val (.int (4 : Int32)), .val (.ref a2), .val (.ref b3), .val (.ref b11), .val (.ref a2), .val (.int ee.length.toInt32), .val (.int (Int32.ofNat kk)), .val (.long (enc (1, 3))), .second, .val (.int (1 : Int32)), .val (.int (3 : Int32))] [(.int (1 : Int32)), (.int ((degF ee kk) 3)), (.ref b21)])) rfl rfl (hb hby d4_159)
                refine Go.step st48 ?_
                have N48 := Fr.snoc X48 N47 g_b21
                have A_a2_48 := A_a2_47.other W48 ne_a2_b21
                have A_b12_48 := A_b12_47.other W48 ne_b12_b21
                have A_b18_48 := A_b18_47.other W48 ne_b18_b21
                have A_b11_48 := A_b11_47.other W48 ne_b11_b21
                have A_b15_48 := A_b15_47.other W48 ne_b15_b21
                have A_b3_48 := A_b3_47.other W48 ne_b3_b21
                have Z48 := Nat.le_trans Z47 (Keep.of_wr W48).1
                have KK48 : Keep h0 h48 [] := KK47.wr W48 (Or.inr sz_b21)
                have A_b21_48 : Ary Z h48 b21 .int (nb ee 3).length (fun i => .int ((upA (rowF (nb (ee.take kk) 3)) ((degF ee kk) 3).toNatClampNeg (1 : Int32)) i)) := A_b21_47.setI W48 (degB hTen (ltB hkl hq (by decide))).2
                show Go p e below _ (T48.setTop (mkF m 160 _ []))
                refine Go.step (fun t k => XS.iinc X48.here hx rfl (hb hby d4_160) rfl (l' := #[.val (.int (4 : Int32)), .val (.ref a2), .val (.ref b3), .val (.ref b11), .val (.ref a2), .val (.int ee.length.toInt32), .val (.int ((Int32.ofNat kk) + (1 : Int32))), .val (.long (enc (1, 3))), .second, .val (.int (1 : Int32)), .val (.int (3 : Int32))]) rfl k) ?_
                show Go p e below _ (T48.setTop (mkF m 163 _ []))
                refine Go.step (fun t k => XS.goto X48.here hx rfl (pc0 := 163) (pc' := 100) rfl (hb hby d4_163) (by decide) (by decide) k) ?_
                show Go p e below _ (T48.setTop (mkF m 100 _ []))
                show Go p e below _ (T48.setTop (mkF m 100 _ []))
                rw [succ32]
                exact ih _ (by omega) (kk + 1) _ (One.val rfl) _ (One.val rfl) _ _ Two.v _ _ _ rfl (by omega) X48 N48 e48 KK48 Z48 A_a2_48 (A_b12_48.congr fun q _ => congrArg Value.int (by rw [nbC hkl hq (by decide) (by decide)])) (A_b15_48.congr fun q _ => congrArg Value.int (rowA hTen hkl hq (by decide) q)) (A_b18_48.congr fun q _ => congrArg Value.int (by rw [nbC hkl hq (by decide) (by decide)])) (A_b21_48.congr fun q _ => congrArg Value.int (rowB hTen hkl hq (by decide) (by decide) q)) A_b11_48 (A_b3_48.congr fun i _ => congrArg Value.int (degS hkl hq (by decide) i))
              · skip
                show Go p e below _ (T28.setTop (mkF m 128 #[.val (.int (4 : Int32)), .val (.ref a2), .val (.ref b3), .val (.ref b11), .val (.ref a2), .val (.int ee.length.toInt32), .val (.int (Int32.ofNat kk)), .val (.long (enc (2, 3))), .second, .val (.int (2 : Int32)), .val (.int (3 : Int32))] []))
                refine gA (q := 129) X28 hx (hb hby d4_128) rfl rfl rfl ?_
                refine gJ (q := 131) X28 hx (hb hby d4_129) rfl rfl ?_
                refine Go.step (ldR X28 hx hZ e28 A_b11_l24.ary rfl (j := (2 : Int32)) (by decide) (by decide) (g := (mkF m 131 _ [(.int (2 : Int32)), (.ref b11)])) rfl rfl (hb hby d4_131)) ?_
                show Go p e below _ (T28.setTop (mkF m 132 _ [(.ref b18)]))
                refine gA (q := 133) X28 hx (hb hby d4_132) rfl rfl rfl ?_
                refine gJ (q := 135) X28 hx (hb hby d4_133) rfl rfl ?_
                refine Go.step (S' := T28.setTop (mkF m 136 #[.val (.int (4 : Int32)), .val (.ref a2), .val (.ref b3), .val (.ref b11), .val (.ref a2), .val (.int ee.length.toInt32), .val (.int (Int32.ofNat kk)), .val (.long (enc (2, 3))), .second, .val (.int (2 : Int32)), .val (.int (3 : Int32))] [(.int (2 : Int32)), (.ref b3), (.int (2 : Int32)), (.ref b3), (.ref b18)])) (fun t k => ?_) ?_
                · jvm_step X28.here [X28.here.top, hx, (hb hby d4_135), Value.category]
                  exact k
                show Go p e below _ (T28.setTop (mkF m 136 _ [(.int (2 : Int32)), (.ref b3), (.int (2 : Int32)), (.ref b3), (.ref b18)]))
                refine Go.step (ldI X28 hx hZ e28 A_b3_l24 (j := (2 : Int32)) (by decide) (by decide) (g := (mkF m 136 _ [(.int (2 : Int32)), (.ref b3), (.int (2 : Int32)), (.ref b3), (.ref b18)])) rfl rfl (hb hby d4_136)) ?_
                show Go p e below _ (T28.setTop (mkF m 137 _ [(.int ((degF ee kk) 2)), (.int (2 : Int32)), (.ref b3), (.ref b18)]))
                refine Go.step (S' := T28.setTop (mkF m 138 #[.val (.int (4 : Int32)), .val (.ref a2), .val (.ref b3), .val (.ref b11), .val (.ref a2), .val (.int ee.length.toInt32), .val (.int (Int32.ofNat kk)), .val (.long (enc (2, 3))), .second, .val (.int (2 : Int32)), .val (.int (3 : Int32))] [(.int ((degF ee kk) 2)), (.int (2 : Int32)), (.ref b3), (.int ((degF ee kk) 2)), (.ref b18)])) (fun t k => ?_) ?_
                · jvm_step X28.here [X28.here.top, hx, (hb hby d4_137), Value.category]
                  exact k
                show Go p e below _ (T28.setTop (mkF m 138 _ [(.int ((degF ee kk) 2)), (.int (2 : Int32)), (.ref b3), (.int ((degF ee kk) 2)), (.ref b18)]))
                refine gC (q := 139) (v := 1) X28 hx (hb hby d4_138) rfl rfl ?_
                refine Go.step (fun t k => XS.iadd X28.here hx rfl (hb hby d4_139) rfl k) ?_
                show Go p e below _ (T28.setTop (mkF m 140 _ [(.int (((degF ee kk) 2) + (1 : Int32))), (.int (2 : Int32)), (.ref b3), (.int ((degF ee kk) 2)), (.ref b18)]))
                obtain ⟨cl49, Ar49, in49, -⟩ := A_b3_l24.hin (j := (2 : Int32)) (by decide) (by decide)
                obtain ⟨T49, h49, X49, e49, W49, st49⟩ := stI X28 hx hZ e28 Ar49 in49 (g := (mkF m 140 #[.val (.int (4 : Int32)), .val (.ref a2), .val (.ref b3), .val (.ref b11), .val (.ref a2), .val (.int ee.length.toInt32), .val (.int (Int32.ofNat kk)), .val (.long (enc (2, 3))), .second, .val (.int (2 : Int32)), .val (.int (3 : Int32))] [(.int (((degF ee kk) 2) + (1 : Int32))), (.int (2 : Int32)), (.ref b3), (.int ((degF ee kk) 2)), (.ref b18)])) rfl rfl (hb hby d4_140)
                refine Go.step st49 ?_
                have N49 := Fr.snoc X49 N28 g_b3
                have A_a2_49 := A_a2_l24.other W49 ne_a2_b3
                have A_b12_49 := A_b12_l24.other W49 (Ne.symm ne_b3_b12)
                have A_b15_49 := A_b15_l24.other W49 (Ne.symm ne_b3_b15)
                have A_b18_49 := A_b18_l24.other W49 (Ne.symm ne_b3_b18)
                have A_b21_49 := A_b21_l24.other W49 (Ne.symm ne_b3_b21)
                have A_b11_49 := A_b11_l24.other W49 (Ne.symm ne_b3_b11)
                have Z49 := Nat.le_trans Zl24 (Keep.of_wr W49).1
                have KK49 : Keep h0 h49 [] := KKl24.wr W49 (Or.inr sz_b3)
                have A_b3_49 : Ary Z h49 b3 .int 4 (fun i => .int ((upA (degF ee kk) 2 (((degF ee kk) 2) + (1 : Int32))) i)) := A_b3_l24.setI W49 (by decide)
                show Go p e below _ (T49.setTop (mkF m 141 _ [(.int ((degF ee kk) 2)), (.ref b18)]))
                refine gJ (q := 143) X49 hx (hb hby d4_141) rfl rfl ?_
                obtain ⟨cl50, Ar50, in50, -⟩ := A_b18_49.hin (j := ((degF ee kk) 2)) (degB hTen (ltA hkl hq)).1 (degB hTen (ltA hkl hq)).2
                obtain ⟨T50, h50, X50, e50, W50, st50⟩ := stI X49 hx hZ e49 Ar50 in50 (g := (mkF m 143 #[.val (.int (4 : Int32)), .val (.ref a2), .val (.ref b3), .val (.ref b11), .val (.ref a2), .val (.int ee.length.toInt32), .val (.int (Int32.ofNat kk)), .val (.long (enc (2, 3))), .second, .val (.int (2 : Int32)), .val (.int (3 : Int32))] [(.int (3 : Int32)), (.int ((degF ee kk) 2)), (.ref b18)])) rfl rfl (hb hby d4_143)
                refine Go.step st50 ?_
                have N50 := Fr.snoc X50 N49 g_b18
                have A_a2_50 := A_a2_49.other W50 ne_a2_b18
                have A_b12_50 := A_b12_49.other W50 ne_b12_b18
                have A_b15_50 := A_b15_49.other W50 ne_b15_b18
                have A_b21_50 := A_b21_49.other W50 (Ne.symm ne_b18_b21)
                have A_b11_50 := A_b11_49.other W50 ne_b11_b18
                have A_b3_50 := A_b3_49.other W50 ne_b3_b18
                have Z50 := Nat.le_trans Z49 (Keep.of_wr W50).1
                have KK50 : Keep h0 h50 [] := KK49.wr W50 (Or.inr sz_b18)
                have A_b18_50 : Ary Z h50 b18 .int (nb ee 2).length (fun i => .int ((upA (rowF (nb (ee.take kk) 2)) ((degF ee kk) 2).toNatClampNeg (3 : Int32)) i)) := A_b18_49.setI W50 (degB hTen (ltA hkl hq)).2
                show Go p e below _ (T50.setTop (mkF m 144 _ []))
                refine gA (q := 145) X50 hx (hb hby d4_144) rfl rfl rfl ?_
                refine gJ (q := 147) X50 hx (hb hby d4_145) rfl rfl ?_
                refine Go.step (ldR X50 hx hZ e50 A_b11_50.ary rfl (j := (3 : Int32)) (by decide) (by decide) (g := (mkF m 147 _ [(.int (3 : Int32)), (.ref b11)])) rfl rfl (hb hby d4_147)) ?_
                show Go p e below _ (T50.setTop (mkF m 148 _ [(.ref b21)]))
                refine gA (q := 149) X50 hx (hb hby d4_148) rfl rfl rfl ?_
                refine gJ (q := 151) X50 hx (hb hby d4_149) rfl rfl ?_
                refine Go.step (S' := T50.setTop (mkF m 152 #[.val (.int (4 : Int32)), .val (.ref a2), .val (.ref b3), .val (.ref b11), .val (.ref a2), .val (.int ee.length.toInt32), .val (.int (Int32.ofNat kk)), .val (.long (enc (2, 3))), .second, .val (.int (2 : Int32)), .val (.int (3 : Int32))] [(.int (3 : Int32)), (.ref b3), (.int (3 : Int32)), (.ref b3), (.ref b21)])) (fun t k => ?_) ?_
                · jvm_step X50.here [X50.here.top, hx, (hb hby d4_151), Value.category]
                  exact k
                show Go p e below _ (T50.setTop (mkF m 152 _ [(.int (3 : Int32)), (.ref b3), (.int (3 : Int32)), (.ref b3), (.ref b21)]))
                refine Go.step (ldI X50 hx hZ e50 A_b3_50 (j := (3 : Int32)) (by decide) (by decide) (g := (mkF m 152 _ [(.int (3 : Int32)), (.ref b3), (.int (3 : Int32)), (.ref b3), (.ref b21)])) rfl rfl (hb hby d4_152)) ?_
                show Go p e below _ (T50.setTop (mkF m 153 _ [(.int ((degF ee kk) 3)), (.int (3 : Int32)), (.ref b3), (.ref b21)]))
                refine Go.step (S' := T50.setTop (mkF m 154 #[.val (.int (4 : Int32)), .val (.ref a2), .val (.ref b3), .val (.ref b11), .val (.ref a2), .val (.int ee.length.toInt32), .val (.int (Int32.ofNat kk)), .val (.long (enc (2, 3))), .second, .val (.int (2 : Int32)), .val (.int (3 : Int32))] [(.int ((degF ee kk) 3)), (.int (3 : Int32)), (.ref b3), (.int ((degF ee kk) 3)), (.ref b21)])) (fun t k => ?_) ?_
                · jvm_step X50.here [X50.here.top, hx, (hb hby d4_153), Value.category]
                  exact k
                show Go p e below _ (T50.setTop (mkF m 154 _ [(.int ((degF ee kk) 3)), (.int (3 : Int32)), (.ref b3), (.int ((degF ee kk) 3)), (.ref b21)]))
                refine gC (q := 155) (v := 1) X50 hx (hb hby d4_154) rfl rfl ?_
                refine Go.step (fun t k => XS.iadd X50.here hx rfl (hb hby d4_155) rfl k) ?_
                show Go p e below _ (T50.setTop (mkF m 156 _ [(.int (((degF ee kk) 3) + (1 : Int32))), (.int (3 : Int32)), (.ref b3), (.int ((degF ee kk) 3)), (.ref b21)]))
                obtain ⟨cl51, Ar51, in51, -⟩ := A_b3_50.hin (j := (3 : Int32)) (by decide) (by decide)
                obtain ⟨T51, h51, X51, e51, W51, st51⟩ := stI X50 hx hZ e50 Ar51 in51 (g := (mkF m 156 #[.val (.int (4 : Int32)), .val (.ref a2), .val (.ref b3), .val (.ref b11), .val (.ref a2), .val (.int ee.length.toInt32), .val (.int (Int32.ofNat kk)), .val (.long (enc (2, 3))), .second, .val (.int (2 : Int32)), .val (.int (3 : Int32))] [(.int (((degF ee kk) 3) + (1 : Int32))), (.int (3 : Int32)), (.ref b3), (.int ((degF ee kk) 3)), (.ref b21)])) rfl rfl (hb hby d4_156)
                refine Go.step st51 ?_
                have N51 := Fr.snoc X51 N50 g_b3
                have A_a2_51 := A_a2_50.other W51 ne_a2_b3
                have A_b12_51 := A_b12_50.other W51 (Ne.symm ne_b3_b12)
                have A_b15_51 := A_b15_50.other W51 (Ne.symm ne_b3_b15)
                have A_b21_51 := A_b21_50.other W51 (Ne.symm ne_b3_b21)
                have A_b11_51 := A_b11_50.other W51 (Ne.symm ne_b3_b11)
                have A_b18_51 := A_b18_50.other W51 (Ne.symm ne_b3_b18)
                have Z51 := Nat.le_trans Z50 (Keep.of_wr W51).1
                have KK51 : Keep h0 h51 [] := KK50.wr W51 (Or.inr sz_b3)
                have A_b3_51 : Ary Z h51 b3 .int 4 (fun i => .int ((upA (upA (degF ee kk) 2 (((degF ee kk) 2) + (1 : Int32))) 3 (((degF ee kk) 3) + (1 : Int32))) i)) := A_b3_50.setI W51 (by decide)
                show Go p e below _ (T51.setTop (mkF m 157 _ [(.int ((degF ee kk) 3)), (.ref b21)]))
                refine gJ (q := 159) X51 hx (hb hby d4_157) rfl rfl ?_
                obtain ⟨cl52, Ar52, in52, -⟩ := A_b21_51.hin (j := ((degF ee kk) 3)) (degB hTen (ltB hkl hq (by decide))).1 (degB hTen (ltB hkl hq (by decide))).2
                obtain ⟨T52, h52, X52, e52, W52, st52⟩ := stI X51 hx hZ e51 Ar52 in52 (g := (mkF m 159 #[.val (.int (4 : Int32)), .val (.ref a2), .val (.ref b3), .val (.ref b11), .val (.ref a2), .val (.int ee.length.toInt32), .val (.int (Int32.ofNat kk)), .val (.long (enc (2, 3))), .second, .val (.int (2 : Int32)), .val (.int (3 : Int32))] [(.int (2 : Int32)), (.int ((degF ee kk) 3)), (.ref b21)])) rfl rfl (hb hby d4_159)
                refine Go.step st52 ?_
                have N52 := Fr.snoc X52 N51 g_b21
                have A_a2_52 := A_a2_51.other W52 ne_a2_b21
                have A_b12_52 := A_b12_51.other W52 ne_b12_b21
                have A_b15_52 := A_b15_51.other W52 ne_b15_b21
                have A_b11_52 := A_b11_51.other W52 ne_b11_b21
                have A_b18_52 := A_b18_51.other W52 ne_b18_b21
                have A_b3_52 := A_b3_51.other W52 ne_b3_b21
                have Z52 := Nat.le_trans Z51 (Keep.of_wr W52).1
                have KK52 : Keep h0 h52 [] := KK51.wr W52 (Or.inr sz_b21)
                have A_b21_52 : Ary Z h52 b21 .int (nb ee 3).length (fun i => .int ((upA (rowF (nb (ee.take kk) 3)) ((degF ee kk) 3).toNatClampNeg (2 : Int32)) i)) := A_b21_51.setI W52 (degB hTen (ltB hkl hq (by decide))).2
                show Go p e below _ (T52.setTop (mkF m 160 _ []))
                refine Go.step (fun t k => XS.iinc X52.here hx rfl (hb hby d4_160) rfl (l' := #[.val (.int (4 : Int32)), .val (.ref a2), .val (.ref b3), .val (.ref b11), .val (.ref a2), .val (.int ee.length.toInt32), .val (.int ((Int32.ofNat kk) + (1 : Int32))), .val (.long (enc (2, 3))), .second, .val (.int (2 : Int32)), .val (.int (3 : Int32))]) rfl k) ?_
                show Go p e below _ (T52.setTop (mkF m 163 _ []))
                refine Go.step (fun t k => XS.goto X52.here hx rfl (pc0 := 163) (pc' := 100) rfl (hb hby d4_163) (by decide) (by decide) k) ?_
                show Go p e below _ (T52.setTop (mkF m 100 _ []))
                show Go p e below _ (T52.setTop (mkF m 100 _ []))
                rw [succ32]
                exact ih _ (by omega) (kk + 1) _ (One.val rfl) _ (One.val rfl) _ _ Two.v _ _ _ rfl (by omega) X52 N52 e52 KK52 Z52 A_a2_52 (A_b12_52.congr fun q _ => congrArg Value.int (by rw [nbC hkl hq (by decide) (by decide)])) (A_b15_52.congr fun q _ => congrArg Value.int (by rw [nbC hkl hq (by decide) (by decide)])) (A_b18_52.congr fun q _ => congrArg Value.int (rowA hTen hkl hq (by decide) q)) (A_b21_52.congr fun q _ => congrArg Value.int (rowB hTen hkl hq (by decide) (by decide) q)) A_b11_52 (A_b3_52.congr fun i _ => congrArg Value.int (degS hkl hq (by decide) i))
            · refine Go.step (fun t k => XS.icmpYes Xl24.here hx rfl (pc0 := 104) (pc' := 166) rfl (hb hby d4_104) rfl (flt hc25).2.1 (by decide) (by decide) k) ?_
              show Go p e below _ (Tl24.setTop (mkF m 166 _ []))
              obtain rfl : kk = ee.length := j_ge hTen hk hc25
              have A_b12_l24e : Ary Z hl24 b12 .int (nb ee 0).length (fun i => .int ((rowF (nb ee 0)) i)) := by have q := A_b12_l24; rw [List.take_length] at q; exact q
              have A_b15_l24e : Ary Z hl24 b15 .int (nb ee 1).length (fun i => .int ((rowF (nb ee 1)) i)) := by have q := A_b15_l24; rw [List.take_length] at q; exact q
              have A_b18_l24e : Ary Z hl24 b18 .int (nb ee 2).length (fun i => .int ((rowF (nb ee 2)) i)) := by have q := A_b18_l24; rw [List.take_length] at q; exact q
              have A_b21_l24e : Ary Z hl24 b21 .int (nb ee 3).length (fun i => .int ((rowF (nb ee 3)) i)) := by have q := A_b21_l24; rw [List.take_length] at q; exact q
              show Go p e below _ (Tl24.setTop (mkF m 166 _ []))
              refine gA (q := 167) Xl24 hx (hb hby d4_166) rfl rfl rfl ?_
              refine retGR Xl24 hx Bd.notSynchronized Bd.returns rfl rfl (hb hby d4_167) ?_ (by decide) (by decide)
              show Q4_4 Z a2 ee h0 n0 _ Tl24.heap _
              rw [el24]
              exact ⟨b11, b12, b15, b18, b21, rfl, Nl24, KKl24, sz_b11, sz_b12, sz_b15, sz_b18, sz_b21, A_b12_l24e, A_b15_l24e, A_b18_l24e, A_b21_l24e, A_b11_l24⟩
        exact LOOP100 _ 0 _ One.u _ One.u _ _ Two.u _ _ _ rfl (Nat.zero_le _) X23 N23 e23 KK23 Z23 A_a2_23 (A_b12_23.congr fun q _ => congrArg Value.int (row0 ee 0 q)) (A_b15_23.congr fun q _ => congrArg Value.int (row0 ee 1 q)) (A_b18_23.congr fun q _ => congrArg Value.int (row0 ee 2 q)) (A_b21_23.congr fun q _ => congrArg Value.int (row0 ee 3 q)) A_b11_23 (A_b3_23.congr fun i hi => congrArg Value.int (by rw [← deg0]; (rcases i with _ | _ | _ | _ | i) <;> first | rfl | (exfalso; omega)))
  exact LOOP13 _ 0 _ _ Two.u _ _ _ rfl (Nat.zero_le _) X3 N0 e3 KK3 Z3 A_a2_3 (A_b3_3.congr fun i _ => congrArg Value.int (deg0 ee i)) Ex3
theorem ef_4_5 (m : MethodId) (a2 : Addr) : entryFrame m #[(.int (5 : Int32)), (.ref a2)] 11 = mkF m 0 #[.val (.int (5 : Int32)), .val (.ref a2), .unset, .unset, .unset, .unset, .unset, .unset, .unset, .unset, .unset] [] := by first | (simp [entryFrame, mkF, argsToLocals, Value.category]; done) | rfl
def Q4_5 (Z : State) (a2 : Addr) (ee : List (Nat × Nat)) (h0 : Heap) (n0 : Nat) (v : Option Value) (h : Heap) (L : List Loc) : Prop := ∃ (b11 : Addr) (b12 : Addr) (b15 : Addr) (b18 : Addr) (b21 : Addr) (b24 : Addr), v = some (.ref b11) ∧ Fr n0 L ∧ Keep h0 h [] ∧ h0.size ≤ b11 ∧ h0.size ≤ b12 ∧ h0.size ≤ b15 ∧ h0.size ≤ b18 ∧ h0.size ≤ b21 ∧ h0.size ≤ b24 ∧ Ary Z h b12 .int (nb ee 0).length (fun i => .int ((rowF (nb ee 0)) i)) ∧ Ary Z h b15 .int (nb ee 1).length (fun i => .int ((rowF (nb ee 1)) i)) ∧ Ary Z h b18 .int (nb ee 2).length (fun i => .int ((rowF (nb ee 2)) i)) ∧ Ary Z h b21 .int (nb ee 3).length (fun i => .int ((rowF (nb ee 3)) i)) ∧ Ary Z h b24 .int (nb ee 4).length (fun i => .int ((rowF (nb ee 4)) i)) ∧ RAry Z h b11 (.array .int) "[I" 5 (upA (upA (upA (upA (upA (fun _ => .null) 0 (.ref b12)) 1 (.ref b15)) 2 (.ref b18)) 3 (.ref b21)) 4 (.ref b24))
set_option maxRecDepth 65536 in
set_option maxHeartbeats 40000000 in
theorem rm4_5 (l : Launch) (Z : State) (a0 : Array Value) (hw : ∀ d ∈ tables_1, d.before a0 Z = true) (ws : List Jvm.Cond) (a2 : Addr) (ee : List (Nat × Nat)) (h0 : Heap) (n0 : Nat) (Z0 : n0 ≤ h0.size) (hTen : ee.length ≤ 10) (hE : ∀ p ∈ ee, p = (0, 1) ∨ p = (0, 2) ∨ p = (0, 3) ∨ p = (0, 4) ∨ p = (1, 2) ∨ p = (1, 3) ∨ p = (1, 4) ∨ p = (2, 3) ∨ p = (2, 4) ∨ p = (3, 4)) (A_a2 : Ary Z h0 a2 .long ee.length (fun i => .long ((encF ee) i))) :
    MetFree l (⟨"com/example/hertzbid/hertzbid/ConflictPairs", "neighbours", "(I[J)[[I"⟩ : MethodName) (head1 (Jvm.Cond.code (⟨"com/example/hertzbid/hertzbid/ConflictPairs", "neighbours", "(I[J)[[I"⟩ : MethodName) prog_18_method_7_code 11 (some (.array (.array .int))) :: ws) ({ frames := 1, cells := 7, slots := 60, locals := 14 } : Room)) (fun a U => a = #[(.int (5 : Int32)), (.ref a2)] ∧ Z.Warmed39 U.vm ∧ U.heap = h0) (fun _ _ _ _ _ => True) (fun _ U o U' => ∃ v L, o = .returned v ∧ Q4_5 Z a2 ee h0 n0 v U'.heap L ∧ FrameEnd U o U' L ({ frames := 1, cells := 7, slots := 60, locals := 14 } : Room).cells ({ frames := 1, cells := 7, slots := 60, locals := 14 } : Room).slots) := by
  refine MetFree.of_bodySF (plainFor_of_name pn_1) hisR ?_
  intro p e s m args below meth c s₁ Bd hml0 hP hK
  obtain ⟨rfl, hZ, hh⟩ := hP
  have hx := Bd.exec
  have hby := Bd.bytes
  have hml : c.maxLocals = 11 := hml0
  have hown : s.vm.findClass "com/example/hertzbid/hertzbid/ConflictPairs" = some m.cls := findClass_of_methodNamed Bd.named
  have hnm := (name_of_methodNamed Bd.named Bd.method).1
  have X0 : Stand p l e ({ frames := 1, cells := 7, slots := 60, locals := 14 } : Room) s m #[(.int (5 : Int32)), (.ref a2)] below meth c s₁ [] 0 0 := Stand.of_body Bd
  have e0 : s₁.heap = h0 := by rw [← hh, Bd.state]; rfl
  have N0 := Fr.nil n0
  refine Go.done (Go.step (fun t k => castTop (ef_4_5 m a2) k) ?_)
  have KK0 : Keep h0 h0 [] := Keep.refl _ _
  show Go p e below _ (s₁.setTop (mkF m 0 _ []))
  refine gI (q := 1) X0 hx (hb hby d4_0) rfl rfl ?_
  obtain ⟨T3, h3, k3, X3, e3, E3, A3, Ex3, st3⟩ := newPE X0 hx hZ (hw _ (List.mem_of_getElem? (i := 16) rfl)) e0 (g := (mkF m 1 #[.val (.int (5 : Int32)), .val (.ref a2), .unset, .unset, .unset, .unset, .unset, .unset, .unset, .unset, .unset] [(.int (5 : Int32))])) rfl (hb hby d4_1) rfl (by decide) (cap := 5) (by decide) (by decide) (by decide) (by decide) (ad := "[I") rfl
  obtain ⟨b3, g3⟩ : ∃ z, z = h0.size := ⟨_, rfl⟩
  rw [← g3] at A3 Ex3 st3
  have g_b3 : n0 ≤ b3 := Nat.le_trans Z0 (Nat.le_of_eq g3.symm)
  have sz_b3 : h0.size ≤ b3 := Nat.le_trans KK0.1 (Nat.le_of_eq g3.symm)
  have ne_a2_b3 : a2 ≠ b3 := Nat.ne_of_lt (Nat.lt_of_lt_of_le A_a2.lt (Nat.le_of_eq g3.symm))
  refine Go.step st3 ?_
  have A_a2_3 := A_a2.ext E3
  have Z3 := Nat.le_trans Z0 E3.1
  have KK3 : Keep h0 h3 [] := KK0.ext E3
  have A_b3_3 : Ary Z h3 b3 .int 5 (fun i => .int ((fun _ => (0 : Int32)) i)) := Ary.mk A3 (by decide) (by decide)
  replace X3 : Stand p l e ({ frames := 1, cells := 7, slots := 60, locals := 14 } : Room) s m #[(.int (5 : Int32)), (.ref a2)] below meth c T3 _ 1 5 := X3
  show Go p e below _ (T3.setTop (mkF m 3 _ [(.ref b3)]))
  refine Go.step (fun t k => XS.astoreN X3.here hx rfl (hb hby d4_3) rfl rfl (l' := #[.val (.int (5 : Int32)), .val (.ref a2), .val (.ref b3), .unset, .unset, .unset, .unset, .unset, .unset, .unset, .unset]) rfl k) ?_
  show Go p e below _ (T3.setTop (mkF m 4 _ []))
  refine gA (q := 5) X3 hx (hb hby d4_4) rfl rfl rfl ?_
  refine Go.step (fun t k => XS.astoreN X3.here hx rfl (hb hby d4_5) rfl rfl (l' := #[.val (.int (5 : Int32)), .val (.ref a2), .val (.ref b3), .val (.ref a2), .unset, .unset, .unset, .unset, .unset, .unset, .unset]) rfl k) ?_
  show Go p e below _ (T3.setTop (mkF m 6 _ []))
  refine gA (q := 7) X3 hx (hb hby d4_6) rfl rfl rfl ?_
  refine Go.step (lenA X3 hx hZ e3 A_a2_3 (g := (mkF m 7 _ [(.ref a2)])) rfl rfl (hb hby d4_7)) ?_
  show Go p e below _ (T3.setTop (mkF m 8 _ [(.int ee.length.toInt32)]))
  refine Go.step (fun t k => XS.istore X3.here hx rfl (hb hby d4_8) rfl (l' := #[.val (.int (5 : Int32)), .val (.ref a2), .val (.ref b3), .val (.ref a2), .val (.int ee.length.toInt32), .unset, .unset, .unset, .unset, .unset, .unset]) rfl k) ?_
  show Go p e below _ (T3.setTop (mkF m 10 _ []))
  refine gC (q := 11) (v := 0) X3 hx (hb hby d4_10) rfl rfl ?_
  refine Go.step (fun t k => XS.istore X3.here hx rfl (hb hby d4_11) rfl (l' := #[.val (.int (5 : Int32)), .val (.ref a2), .val (.ref b3), .val (.ref a2), .val (.int ee.length.toInt32), .val (.int (0 : Int32)), .unset, .unset, .unset, .unset, .unset]) rfl k) ?_
  show Go p e below _ (T3.setTop (mkF m 13 _ []))
  have LOOP13 : ∀ (mm : Nat) (j : Nat) (sl6 sm6 : Slot) (hsl6 : Two sl6 sm6) (Tl4 : State) (Ll4 : List Loc) (hl4 : Heap) (hmm : ee.length - j = mm) (hj : j ≤ ee.length) (Xl4 : Stand p l e ({ frames := 1, cells := 7, slots := 60, locals := 14 } : Room) s m #[(.int (5 : Int32)), (.ref a2)] below meth c Tl4 Ll4 1 5) (Nl4 : Fr n0 Ll4) (el4 : Tl4.heap = hl4) (KKl4 : Keep h0 hl4 []) (Zl4 : n0 ≤ hl4.size) (A_a2_l4 : Ary Z hl4 a2 .long ee.length (fun i => .long ((encF ee) i))) (A_b3_l4 : Ary Z hl4 b3 .int 5 (fun i => .int ((degF ee j) i))) (E_b3_l4 : Exa Z hl4 b3 "[I"), Go p e below (FinQ below s (Q4_5 Z a2 ee h0 n0) ({ frames := 1, cells := 7, slots := 60, locals := 14 } : Room).cells ({ frames := 1, cells := 7, slots := 60, locals := 14 } : Room).slots) (Tl4.setTop (mkF m 13 #[.val (.int (5 : Int32)), .val (.ref a2), .val (.ref b3), .val (.ref a2), .val (.int ee.length.toInt32), .val (.int (Int32.ofNat j)), sl6, sm6, .unset, .unset, .unset] [])) := by
    intro mm
    induction mm using Nat.strongRecOn with
    | _ mm ih =>
      intro j sl6 sm6 hsl6 Tl4 Ll4 hl4 hmm hj Xl4 Nl4 el4 KKl4 Zl4 A_a2_l4 A_b3_l4 E_b3_l4
      show Go p e below _ (Tl4.setTop (mkF m 13 _ []))
      refine gJ (q := 15) Xl4 hx (hb hby d4_13) rfl rfl ?_
      refine gJ (q := 17) Xl4 hx (hb hby d4_15) rfl rfl ?_
      by_cases hc5 : (Int32.ofNat j) < ee.length.toInt32
      · refine Go.step (fun t k => XS.icmpNo Xl4.here hx rfl (hb hby d4_17) rfl (tlt hc5).2.1 k) ?_
        show Go p e below _ (Tl4.setTop (mkF m 20 _ []))
        refine gA (q := 21) Xl4 hx (hb hby d4_20) rfl rfl rfl ?_
        refine gJ (q := 23) Xl4 hx (hb hby d4_21) rfl rfl ?_
        refine Go.step (ldJ Xl4 hx hZ el4 A_a2_l4 (j := (Int32.ofNat j)) (of_nn (by omega)) (by rw [clamp_nat (by omega)]; exact j_lt hTen hj hc5) (g := (mkF m 23 _ [(.int (Int32.ofNat j)), (.ref a2)])) rfl rfl (hb hby d4_23)) ?_
        show Go p e below _ (Tl4.setTop (mkF m 24 _ [(.long ((encF ee) (Int32.ofNat j).toNatClampNeg))]))
        refine nameIt (fun zz : Int64 => Go p e below _ (Tl4.setTop (mkF m 24 #[.val (.int (5 : Int32)), .val (.ref a2), .val (.ref b3), .val (.ref a2), .val (.int ee.length.toInt32), .val (.int (Int32.ofNat j)), sl6, sm6, .unset, .unset, .unset] [(.long zz)]))) ((encF ee) (Int32.ofNat j).toNatClampNeg) ?_
        intro v6 hv6
        show Go p e below _ (Tl4.setTop (mkF m 24 _ [(.long v6)]))
        refine Go.step (fun t k => XS.lstore Xl4.here hx rfl (hb hby d4_24) rfl (l' := #[.val (.int (5 : Int32)), .val (.ref a2), .val (.ref b3), .val (.ref a2), .val (.int ee.length.toInt32), .val (.int (Int32.ofNat j)), .val (.long v6), .second, .unset, .unset, .unset]) (by rcases hsl6 with ⟨rfl, rfl⟩ | ⟨w, rfl, rfl⟩ <;> rfl) k) ?_
        show Go p e below _ (Tl4.setTop (mkF m 26 _ []))
        have hjl : j < ee.length := j_lt hTen hj hc5
        obtain ⟨ea, eb, hq, hab, hbn, hor⟩ := pick_5 hE hjl
        have hva : ea < 2147483648 := by omega
        have hvb : eb < 2147483648 := by omega
        rw [show v6 = enc (ea, eb) by rw [hv6, clamp_nat (by omega)]; exact congrArg enc hq]
        show Go p e below _ (Tl4.setTop (mkF m 26 _ []))
        refine gA (q := 27) Xl4 hx (hb hby d4_26) rfl rfl rfl ?_
        refine Go.step (fun t k => XS.lload Xl4.here hx rfl (hb hby d4_27) rfl k) ?_
        show Go p e below _ (Tl4.setTop (mkF m 29 _ [(.long (enc (ea, eb))), (.ref b3)]))
        obtain ⟨_, _, ⟨T7, L7, k7, n7⟩, -, X7, ⟨Lc7, hQ7, l7, y7, z7⟩, st7⟩ := Jvm.LawKit.callS Xl4 hx (y := (⟨"com/example/hertzbid/hertzbid/ConflictPairs", "first", "(J)I"⟩ : MethodName)) hown (mvT hZ (hw _ (List.mem_of_getElem? (i := 25) rfl))) (mvT hZ (hw _ (List.mem_of_getElem? (i := 26) rfl))) (mvT hZ (hw _ (List.mem_of_getElem? (i := 14) rfl))) (mvT hZ (hw _ (List.mem_of_getElem? (i := 27) rfl))) (by decide) (backOf (W := 1) (rm7 l Z a0 hw [] (enc (ea, eb)) hl4 n0 Zl4) hZ (hw _ (List.mem_of_getElem? (i := 27) rfl)) (hw _ (List.mem_of_getElem? (i := 14) rfl)) (by decide) (by decide)) (g := (mkF m 29 #[.val (.int (5 : Int32)), .val (.ref a2), .val (.ref b3), .val (.ref a2), .val (.int ee.length.toInt32), .val (.int (Int32.ofNat j)), .val (.long (enc (ea, eb))), .second, .unset, .unset, .unset] [(.long (enc (ea, eb))), (.ref b3)])) rfl (by rw [hml]; rfl) (argsL := [(.long (enc (ea, eb)))]) (rest := [(.ref b3)]) (lenOf pd_2 rfl) rfl (by show 2 * 0 + _ ≤ _; exact Nat.le_of_eq rfl) (hb hby d4_29) (fun _ _ => ⟨rfl, el4, (by decide : 1 + 0 ≤ _), (by decide : 5 + 0 ≤ _)⟩)
        dsimp only [Pt.U, Pt.locs, Pt.cells, Pt.slots] at X7 l7 y7 z7 st7 hQ7
        replace y7 : k7 = 1 := y7
        replace z7 : n7 = 5 := z7
        subst y7 z7
        obtain ⟨rfl, N7q, e7⟩ := hQ7
        have N7 : Fr n0 L7 := Eq.mpr (congrArg (Fr n0) l7) (Fr.app Nl4 N7q)
        refine Go.step st7 ?_
        rw [f7_enc hab (Nat.lt_of_lt_of_le hbn (by decide))]
        show Go p e below _ (T7.setTop (mkF m 32 _ [(.int (Int32.ofNat ea)), (.ref b3)]))
        refine Go.step (S' := T7.setTop (mkF m 33 #[.val (.int (5 : Int32)), .val (.ref a2), .val (.ref b3), .val (.ref a2), .val (.int ee.length.toInt32), .val (.int (Int32.ofNat j)), .val (.long (enc (ea, eb))), .second, .unset, .unset, .unset] [(.int (Int32.ofNat ea)), (.ref b3), (.int (Int32.ofNat ea)), (.ref b3)])) (fun t k => ?_) ?_
        · jvm_step X7.here [X7.here.top, hx, (hb hby d4_32), Value.category]
          exact k
        show Go p e below _ (T7.setTop (mkF m 33 _ [(.int (Int32.ofNat ea)), (.ref b3), (.int (Int32.ofNat ea)), (.ref b3)]))
        refine Go.step (ldI X7 hx hZ e7 A_b3_l4 (j := (Int32.ofNat ea)) (of_nn hva) (by rw [clamp_nat hva]; omega) (g := (mkF m 33 _ [(.int (Int32.ofNat ea)), (.ref b3), (.int (Int32.ofNat ea)), (.ref b3)])) rfl rfl (hb hby d4_33)) ?_
        rw [clamp_nat hva]
        show Go p e below _ (T7.setTop (mkF m 34 _ [(.int ((degF ee j) ea)), (.int (Int32.ofNat ea)), (.ref b3)]))
        refine gC (q := 35) (v := 1) X7 hx (hb hby d4_34) rfl rfl ?_
        refine Go.step (fun t k => XS.iadd X7.here hx rfl (hb hby d4_35) rfl k) ?_
        show Go p e below _ (T7.setTop (mkF m 36 _ [(.int (((degF ee j) ea) + (1 : Int32))), (.int (Int32.ofNat ea)), (.ref b3)]))
        obtain ⟨cl8, Ar8, in8, -⟩ := A_b3_l4.hin (j := (Int32.ofNat ea)) (of_nn hva) (by rw [clamp_nat hva]; omega)
        obtain ⟨T8, h8, X8, e8, W8, st8⟩ := stI X7 hx hZ e7 Ar8 in8 (g := (mkF m 36 #[.val (.int (5 : Int32)), .val (.ref a2), .val (.ref b3), .val (.ref a2), .val (.int ee.length.toInt32), .val (.int (Int32.ofNat j)), .val (.long (enc (ea, eb))), .second, .unset, .unset, .unset] [(.int (((degF ee j) ea) + (1 : Int32))), (.int (Int32.ofNat ea)), (.ref b3)])) rfl rfl (hb hby d4_36)
        refine Go.step st8 ?_
        have N8 := Fr.snoc X8 N7 g_b3
        have A_a2_8 := A_a2_l4.other W8 ne_a2_b3
        have E_b3_8 := E_b3_l4.wr W8
        have Z8 := Nat.le_trans Zl4 (Keep.of_wr W8).1
        have KK8 : Keep h0 h8 [] := KKl4.wr W8 (Or.inr sz_b3)
        have A_b3_8 : Ary Z h8 b3 .int 5 (fun i => .int ((upA (degF ee j) ea (((degF ee j) ea) + (1 : Int32))) i)) := by have q := A_b3_l4.setI W8 (by rw [clamp_nat hva]; omega); rw [clamp_nat hva] at q; exact q
        show Go p e below _ (T8.setTop (mkF m 37 _ []))
        refine gA (q := 38) X8 hx (hb hby d4_37) rfl rfl rfl ?_
        refine Go.step (fun t k => XS.lload X8.here hx rfl (hb hby d4_38) rfl k) ?_
        show Go p e below _ (T8.setTop (mkF m 40 _ [(.long (enc (ea, eb))), (.ref b3)]))
        obtain ⟨_, _, ⟨T9, L9, k9, n9⟩, -, X9, ⟨Lc9, hQ9, l9, y9, z9⟩, st9⟩ := Jvm.LawKit.callS X8 hx (y := (⟨"com/example/hertzbid/hertzbid/ConflictPairs", "second", "(J)I"⟩ : MethodName)) hown (mvT hZ (hw _ (List.mem_of_getElem? (i := 28) rfl))) (mvT hZ (hw _ (List.mem_of_getElem? (i := 29) rfl))) (mvT hZ (hw _ (List.mem_of_getElem? (i := 14) rfl))) (mvT hZ (hw _ (List.mem_of_getElem? (i := 30) rfl))) (by decide) (backOf (W := 1) (rm8 l Z a0 hw [] (enc (ea, eb)) h8 n0 Z8) hZ (hw _ (List.mem_of_getElem? (i := 30) rfl)) (hw _ (List.mem_of_getElem? (i := 14) rfl)) (by decide) (by decide)) (g := (mkF m 40 #[.val (.int (5 : Int32)), .val (.ref a2), .val (.ref b3), .val (.ref a2), .val (.int ee.length.toInt32), .val (.int (Int32.ofNat j)), .val (.long (enc (ea, eb))), .second, .unset, .unset, .unset] [(.long (enc (ea, eb))), (.ref b3)])) rfl (by rw [hml]; rfl) (argsL := [(.long (enc (ea, eb)))]) (rest := [(.ref b3)]) (lenOf pd_2 rfl) rfl (by show 2 * 0 + _ ≤ _; exact Nat.le_of_eq rfl) (hb hby d4_40) (fun _ _ => ⟨rfl, e8, (by decide : 1 + 0 ≤ _), (by decide : 5 + 0 ≤ _)⟩)
        dsimp only [Pt.U, Pt.locs, Pt.cells, Pt.slots] at X9 l9 y9 z9 st9 hQ9
        replace y9 : k9 = 1 := y9
        replace z9 : n9 = 5 := z9
        subst y9 z9
        obtain ⟨rfl, N9q, e9⟩ := hQ9
        have N9 : Fr n0 L9 := Eq.mpr (congrArg (Fr n0) l9) (Fr.app N8 N9q)
        refine Go.step st9 ?_
        rw [f8_enc hab (Nat.lt_of_lt_of_le hbn (by decide))]
        show Go p e below _ (T9.setTop (mkF m 43 _ [(.int (Int32.ofNat eb)), (.ref b3)]))
        refine Go.step (S' := T9.setTop (mkF m 44 #[.val (.int (5 : Int32)), .val (.ref a2), .val (.ref b3), .val (.ref a2), .val (.int ee.length.toInt32), .val (.int (Int32.ofNat j)), .val (.long (enc (ea, eb))), .second, .unset, .unset, .unset] [(.int (Int32.ofNat eb)), (.ref b3), (.int (Int32.ofNat eb)), (.ref b3)])) (fun t k => ?_) ?_
        · jvm_step X9.here [X9.here.top, hx, (hb hby d4_43), Value.category]
          exact k
        show Go p e below _ (T9.setTop (mkF m 44 _ [(.int (Int32.ofNat eb)), (.ref b3), (.int (Int32.ofNat eb)), (.ref b3)]))
        refine Go.step (ldI X9 hx hZ e9 A_b3_8 (j := (Int32.ofNat eb)) (of_nn hvb) (by rw [clamp_nat hvb]; omega) (g := (mkF m 44 _ [(.int (Int32.ofNat eb)), (.ref b3), (.int (Int32.ofNat eb)), (.ref b3)])) rfl rfl (hb hby d4_44)) ?_
        rw [clamp_nat hvb, upA_ne _ _ (Nat.ne_of_gt hab)]
        show Go p e below _ (T9.setTop (mkF m 45 _ [(.int ((degF ee j) eb)), (.int (Int32.ofNat eb)), (.ref b3)]))
        refine gC (q := 46) (v := 1) X9 hx (hb hby d4_45) rfl rfl ?_
        refine Go.step (fun t k => XS.iadd X9.here hx rfl (hb hby d4_46) rfl k) ?_
        show Go p e below _ (T9.setTop (mkF m 47 _ [(.int (((degF ee j) eb) + (1 : Int32))), (.int (Int32.ofNat eb)), (.ref b3)]))
        obtain ⟨cl10, Ar10, in10, -⟩ := A_b3_8.hin (j := (Int32.ofNat eb)) (of_nn hvb) (by rw [clamp_nat hvb]; omega)
        obtain ⟨T10, h10, X10, e10, W10, st10⟩ := stI X9 hx hZ e9 Ar10 in10 (g := (mkF m 47 #[.val (.int (5 : Int32)), .val (.ref a2), .val (.ref b3), .val (.ref a2), .val (.int ee.length.toInt32), .val (.int (Int32.ofNat j)), .val (.long (enc (ea, eb))), .second, .unset, .unset, .unset] [(.int (((degF ee j) eb) + (1 : Int32))), (.int (Int32.ofNat eb)), (.ref b3)])) rfl rfl (hb hby d4_47)
        refine Go.step st10 ?_
        have N10 := Fr.snoc X10 N9 g_b3
        have A_a2_10 := A_a2_8.other W10 ne_a2_b3
        have E_b3_10 := E_b3_8.wr W10
        have Z10 := Nat.le_trans Z8 (Keep.of_wr W10).1
        have KK10 : Keep h0 h10 [] := KK8.wr W10 (Or.inr sz_b3)
        have A_b3_10 : Ary Z h10 b3 .int 5 (fun i => .int ((upA (upA (degF ee j) ea (((degF ee j) ea) + (1 : Int32))) eb (((degF ee j) eb) + (1 : Int32))) i)) := by have q := A_b3_8.setI W10 (by rw [clamp_nat hvb]; omega); rw [clamp_nat hvb] at q; exact q
        show Go p e below _ (T10.setTop (mkF m 48 _ []))
        refine Go.step (fun t k => XS.iinc X10.here hx rfl (hb hby d4_48) rfl (l' := #[.val (.int (5 : Int32)), .val (.ref a2), .val (.ref b3), .val (.ref a2), .val (.int ee.length.toInt32), .val (.int ((Int32.ofNat j) + (1 : Int32))), .val (.long (enc (ea, eb))), .second, .unset, .unset, .unset]) rfl k) ?_
        show Go p e below _ (T10.setTop (mkF m 51 _ []))
        refine Go.step (fun t k => XS.goto X10.here hx rfl (pc0 := 51) (pc' := 13) rfl (hb hby d4_51) (by decide) (by decide) k) ?_
        show Go p e below _ (T10.setTop (mkF m 13 _ []))
        show Go p e below _ (T10.setTop (mkF m 13 _ []))
        rw [succ32]
        exact ih _ (by omega) (j + 1) _ _ Two.v _ _ _ rfl (by omega) X10 N10 e10 KK10 Z10 A_a2_10 (A_b3_10.congr fun i _ => congrArg Value.int (degS hjl hq (Nat.ne_of_lt hab) i)) E_b3_10
      · refine Go.step (fun t k => XS.icmpYes Xl4.here hx rfl (pc0 := 17) (pc' := 54) rfl (hb hby d4_17) rfl (flt hc5).2.1 (by decide) (by decide) k) ?_
        show Go p e below _ (Tl4.setTop (mkF m 54 _ []))
        obtain rfl : j = ee.length := j_ge hTen hj hc5
        show Go p e below _ (Tl4.setTop (mkF m 54 _ []))
        refine gI (q := 55) Xl4 hx (hb hby d4_54) rfl rfl ?_
        obtain ⟨T11, h11, k11, X11, e11, E11, A11, Ex11, Ov11, st11⟩ := newRA Xl4 hx hZ hown (C := "[I") rfl (hw _ (List.mem_of_getElem? (i := 17) rfl)) (hw _ (List.mem_of_getElem? (i := 18) rfl)) el4 (g := (mkF m 55 #[.val (.int (5 : Int32)), .val (.ref a2), .val (.ref b3), .val (.ref a2), .val (.int ee.length.toInt32), .val (.int (Int32.ofNat ee.length)), sl6, sm6, .unset, .unset, .unset] [(.int (5 : Int32))])) rfl (hb hby d4_55) rfl (by decide) (cap := 5) (by decide) (by decide) (by decide) (by decide) (ad := "[[I") rfl
        obtain ⟨b11, g11⟩ : ∃ z, z = hl4.size := ⟨_, rfl⟩
        rw [← g11] at A11 Ex11 st11
        have g_b11 : n0 ≤ b11 := Nat.le_trans Zl4 (Nat.le_of_eq g11.symm)
        have sz_b11 : h0.size ≤ b11 := Nat.le_trans KKl4.1 (Nat.le_of_eq g11.symm)
        have ne_a2_b11 : a2 ≠ b11 := Nat.ne_of_lt (Nat.lt_of_lt_of_le A_a2_l4.lt (Nat.le_of_eq g11.symm))
        have ne_b3_b11 : b3 ≠ b11 := Nat.ne_of_lt (Nat.lt_of_lt_of_le A_b3_l4.lt (Nat.le_of_eq g11.symm))
        refine Go.step st11 ?_
        have A_a2_11 := A_a2_l4.ext E11
        have A_b3_11 := A_b3_l4.ext E11
        have E_b3_11 := E_b3_l4.ext E11
        have Z11 := Nat.le_trans Zl4 E11.1
        have KK11 : Keep h0 h11 [] := KKl4.ext E11
        have A_b11_11 : RAry Z h11 b11 (.array .int) "[I" 5 (fun _ => .null) := RAry.mk A11 Ov11 (by decide) (by decide) rfl
        replace X11 : Stand p l e ({ frames := 1, cells := 7, slots := 60, locals := 14 } : Room) s m #[(.int (5 : Int32)), (.ref a2)] below meth c T11 _ 2 10 := X11
        show Go p e below _ (T11.setTop (mkF m 58 _ [(.ref b11)]))
        refine Go.step (fun t k => XS.astoreN X11.here hx rfl (hb hby d4_58) rfl rfl (l' := #[.val (.int (5 : Int32)), .val (.ref a2), .val (.ref b3), .val (.ref b11), .val (.int ee.length.toInt32), .val (.int (Int32.ofNat ee.length)), sl6, sm6, .unset, .unset, .unset]) rfl k) ?_
        show Go p e below _ (T11.setTop (mkF m 59 _ []))
        refine gC (q := 60) (v := 0) X11 hx (hb hby d4_59) rfl rfl ?_
        refine Go.step (fun t k => XS.istore X11.here hx rfl (hb hby d4_60) rfl (l' := #[.val (.int (5 : Int32)), .val (.ref a2), .val (.ref b3), .val (.ref b11), .val (.int (0 : Int32)), .val (.int (Int32.ofNat ee.length)), sl6, sm6, .unset, .unset, .unset]) rfl k) ?_
        show Go p e below _ (T11.setTop (mkF m 62 _ []))
        refine gJ (q := 64) X11 hx (hb hby d4_62) rfl rfl ?_
        refine gI (q := 65) X11 hx (hb hby d4_64) rfl rfl ?_
        refine Go.step (fun t k => XS.icmpNo X11.here hx rfl (hb hby d4_65) rfl (tlt (by decide : (0 : Int32) < (5 : Int32))).2.1 k) ?_
        show Go p e below _ (T11.setTop (mkF m 68 _ []))
        refine gA (q := 69) X11 hx (hb hby d4_68) rfl rfl rfl ?_
        refine gJ (q := 71) X11 hx (hb hby d4_69) rfl rfl ?_
        refine gA (q := 72) X11 hx (hb hby d4_71) rfl rfl rfl ?_
        refine gJ (q := 74) X11 hx (hb hby d4_72) rfl rfl ?_
        refine Go.step (ldI X11 hx hZ e11 A_b3_11 (j := (0 : Int32)) (by decide) (by decide) (g := (mkF m 74 _ [(.int (0 : Int32)), (.ref b3), (.int (0 : Int32)), (.ref b11)])) rfl rfl (hb hby d4_74)) ?_
        show Go p e below _ (T11.setTop (mkF m 75 _ [(.int ((degF ee ee.length) 0)), (.int (0 : Int32)), (.ref b11)]))
        obtain ⟨T12, h12, k12, X12, e12, E12, A12, Ex12, st12⟩ := newPE X11 hx hZ (hw _ (List.mem_of_getElem? (i := 16) rfl)) e11 (g := (mkF m 75 #[.val (.int (5 : Int32)), .val (.ref a2), .val (.ref b3), .val (.ref b11), .val (.int (0 : Int32)), .val (.int (Int32.ofNat ee.length)), sl6, sm6, .unset, .unset, .unset] [(.int ((degF ee ee.length) 0)), (.int (0 : Int32)), (.ref b11)])) rfl (hb hby d4_75) rfl ((degT ee 0 hTen).1 : ¬ ((degF ee ee.length) 0) < 0) (cap := 10) ((degT ee 0 hTen).2.1 : ((degF ee ee.length) 0).toNatClampNeg ≤ 10) (by decide) (by decide) (by decide) (ad := "[I") rfl
        obtain ⟨b12, g12⟩ : ∃ z, z = h11.size := ⟨_, rfl⟩
        rw [← g12] at A12 Ex12 st12
        have g_b12 : n0 ≤ b12 := Nat.le_trans Z11 (Nat.le_of_eq g12.symm)
        have sz_b12 : h0.size ≤ b12 := Nat.le_trans KK11.1 (Nat.le_of_eq g12.symm)
        have ne_a2_b12 : a2 ≠ b12 := Nat.ne_of_lt (Nat.lt_of_lt_of_le A_a2_11.lt (Nat.le_of_eq g12.symm))
        have ne_b3_b12 : b3 ≠ b12 := Nat.ne_of_lt (Nat.lt_of_lt_of_le A_b3_11.lt (Nat.le_of_eq g12.symm))
        have ne_b11_b12 : b11 ≠ b12 := Nat.ne_of_lt (Nat.lt_of_lt_of_le A_b11_11.lt (Nat.le_of_eq g12.symm))
        refine Go.step st12 ?_
        have A_a2_12 := A_a2_11.ext E12
        have A_b3_12 := A_b3_11.ext E12
        have E_b3_12 := E_b3_11.ext E12
        have A_b11_12 := A_b11_11.ext E12
        have Z12 := Nat.le_trans Z11 E12.1
        have KK12 : Keep h0 h12 [] := KK11.ext E12
        have A_b12_12 : Ary Z h12 b12 .int (nb ee 0).length (fun i => .int ((fun _ => (0 : Int32)) i)) := Ary.mk A12 ((degT ee 0 hTen).1 : ¬ ((degF ee ee.length) 0) < 0) (degT ee 0 hTen).2.2
        replace X12 : Stand p l e ({ frames := 1, cells := 7, slots := 60, locals := 14 } : Room) s m #[(.int (5 : Int32)), (.ref a2)] below meth c T12 _ 3 20 := X12
        show Go p e below _ (T12.setTop (mkF m 77 _ [(.ref b12), (.int (0 : Int32)), (.ref b11)]))
        obtain ⟨cl13, Ar13, in13, -⟩ := A_b11_12.hin (j := (0 : Int32)) (by decide) (by decide)
        obtain ⟨T13, h13, X13, e13, W13, st13⟩ := Jvm.RoadKit.stR X12 hx hZ e12 Ar13 in13 rfl (A_b11_12.sto (Ins.self Ex12)) (g := (mkF m 77 #[.val (.int (5 : Int32)), .val (.ref a2), .val (.ref b3), .val (.ref b11), .val (.int (0 : Int32)), .val (.int (Int32.ofNat ee.length)), sl6, sm6, .unset, .unset, .unset] [(.ref b12), (.int (0 : Int32)), (.ref b11)])) rfl rfl (hb hby d4_77)
        refine Go.step st13 ?_
        have N13 := Fr.snoc X13 Nl4 g_b11
        have A_a2_13 := A_a2_12.other W13 ne_a2_b11
        have A_b3_13 := A_b3_12.other W13 ne_b3_b11
        have E_b3_13 := E_b3_12.wr W13
        have A_b12_13 := A_b12_12.other W13 (Ne.symm ne_b11_b12)
        have E_b12_13 := Ex12.wr W13
        have Z13 := Nat.le_trans Z12 (Keep.of_wr W13).1
        have KK13 : Keep h0 h13 [] := KK12.wr W13 (Or.inr sz_b11)
        have A_b11_13 : RAry Z h13 b11 (.array .int) "[I" 5 (upA (fun _ => .null) 0 (.ref b12)) := A_b11_12.set W13 (by decide)
        show Go p e below _ (T13.setTop (mkF m 78 _ []))
        refine gA (q := 79) X13 hx (hb hby d4_78) rfl rfl rfl ?_
        refine gJ (q := 81) X13 hx (hb hby d4_79) rfl rfl ?_
        refine gC (q := 82) (v := 0) X13 hx (hb hby d4_81) rfl rfl ?_
        obtain ⟨cl14, Ar14, in14, -⟩ := A_b3_13.hin (j := (0 : Int32)) (by decide) (by decide)
        obtain ⟨T14, h14, X14, e14, W14, st14⟩ := stI X13 hx hZ e13 Ar14 in14 (g := (mkF m 82 #[.val (.int (5 : Int32)), .val (.ref a2), .val (.ref b3), .val (.ref b11), .val (.int (0 : Int32)), .val (.int (Int32.ofNat ee.length)), sl6, sm6, .unset, .unset, .unset] [(.int (0 : Int32)), (.int (0 : Int32)), (.ref b3)])) rfl rfl (hb hby d4_82)
        refine Go.step st14 ?_
        have N14 := Fr.snoc X14 N13 g_b3
        have A_a2_14 := A_a2_13.other W14 ne_a2_b3
        have E_b3_14 := E_b3_13.wr W14
        have A_b12_14 := A_b12_13.other W14 (Ne.symm ne_b3_b12)
        have E_b12_14 := E_b12_13.wr W14
        have A_b11_14 := A_b11_13.other W14 (Ne.symm ne_b3_b11)
        have Z14 := Nat.le_trans Z13 (Keep.of_wr W14).1
        have KK14 : Keep h0 h14 [] := KK13.wr W14 (Or.inr sz_b3)
        have A_b3_14 : Ary Z h14 b3 .int 5 (fun i => .int ((upA (degF ee ee.length) 0 (0 : Int32)) i)) := A_b3_13.setI W14 (by decide)
        show Go p e below _ (T14.setTop (mkF m 83 _ []))
        refine Go.step (fun t k => XS.iinc X14.here hx rfl (hb hby d4_83) rfl (l' := #[.val (.int (5 : Int32)), .val (.ref a2), .val (.ref b3), .val (.ref b11), .val (.int (1 : Int32)), .val (.int (Int32.ofNat ee.length)), sl6, sm6, .unset, .unset, .unset]) rfl k) ?_
        show Go p e below _ (T14.setTop (mkF m 86 _ []))
        refine Go.step (fun t k => XS.goto X14.here hx rfl (pc0 := 86) (pc' := 62) rfl (hb hby d4_86) (by decide) (by decide) k) ?_
        show Go p e below _ (T14.setTop (mkF m 62 _ []))
        refine gJ (q := 64) X14 hx (hb hby d4_62) rfl rfl ?_
        refine gI (q := 65) X14 hx (hb hby d4_64) rfl rfl ?_
        refine Go.step (fun t k => XS.icmpNo X14.here hx rfl (hb hby d4_65) rfl (tlt (by decide : (1 : Int32) < (5 : Int32))).2.1 k) ?_
        show Go p e below _ (T14.setTop (mkF m 68 _ []))
        refine gA (q := 69) X14 hx (hb hby d4_68) rfl rfl rfl ?_
        refine gJ (q := 71) X14 hx (hb hby d4_69) rfl rfl ?_
        refine gA (q := 72) X14 hx (hb hby d4_71) rfl rfl rfl ?_
        refine gJ (q := 74) X14 hx (hb hby d4_72) rfl rfl ?_
        refine Go.step (ldI X14 hx hZ e14 A_b3_14 (j := (1 : Int32)) (by decide) (by decide) (g := (mkF m 74 _ [(.int (1 : Int32)), (.ref b3), (.int (1 : Int32)), (.ref b11)])) rfl rfl (hb hby d4_74)) ?_
        show Go p e below _ (T14.setTop (mkF m 75 _ [(.int ((degF ee ee.length) 1)), (.int (1 : Int32)), (.ref b11)]))
        obtain ⟨T15, h15, k15, X15, e15, E15, A15, Ex15, st15⟩ := newPE X14 hx hZ (hw _ (List.mem_of_getElem? (i := 16) rfl)) e14 (g := (mkF m 75 #[.val (.int (5 : Int32)), .val (.ref a2), .val (.ref b3), .val (.ref b11), .val (.int (1 : Int32)), .val (.int (Int32.ofNat ee.length)), sl6, sm6, .unset, .unset, .unset] [(.int ((degF ee ee.length) 1)), (.int (1 : Int32)), (.ref b11)])) rfl (hb hby d4_75) rfl ((degT ee 1 hTen).1 : ¬ ((degF ee ee.length) 1) < 0) (cap := 10) ((degT ee 1 hTen).2.1 : ((degF ee ee.length) 1).toNatClampNeg ≤ 10) (by decide) (by decide) (by decide) (ad := "[I") rfl
        obtain ⟨b15, g15⟩ : ∃ z, z = h14.size := ⟨_, rfl⟩
        rw [← g15] at A15 Ex15 st15
        have g_b15 : n0 ≤ b15 := Nat.le_trans Z14 (Nat.le_of_eq g15.symm)
        have sz_b15 : h0.size ≤ b15 := Nat.le_trans KK14.1 (Nat.le_of_eq g15.symm)
        have ne_a2_b15 : a2 ≠ b15 := Nat.ne_of_lt (Nat.lt_of_lt_of_le A_a2_14.lt (Nat.le_of_eq g15.symm))
        have ne_b3_b15 : b3 ≠ b15 := Nat.ne_of_lt (Nat.lt_of_lt_of_le E_b3_14.lt (Nat.le_of_eq g15.symm))
        have ne_b12_b15 : b12 ≠ b15 := Nat.ne_of_lt (Nat.lt_of_lt_of_le A_b12_14.lt (Nat.le_of_eq g15.symm))
        have ne_b11_b15 : b11 ≠ b15 := Nat.ne_of_lt (Nat.lt_of_lt_of_le A_b11_14.lt (Nat.le_of_eq g15.symm))
        refine Go.step st15 ?_
        have A_a2_15 := A_a2_14.ext E15
        have E_b3_15 := E_b3_14.ext E15
        have A_b12_15 := A_b12_14.ext E15
        have E_b12_15 := E_b12_14.ext E15
        have A_b11_15 := A_b11_14.ext E15
        have A_b3_15 := A_b3_14.ext E15
        have Z15 := Nat.le_trans Z14 E15.1
        have KK15 : Keep h0 h15 [] := KK14.ext E15
        have A_b15_15 : Ary Z h15 b15 .int (nb ee 1).length (fun i => .int ((fun _ => (0 : Int32)) i)) := Ary.mk A15 ((degT ee 1 hTen).1 : ¬ ((degF ee ee.length) 1) < 0) (degT ee 1 hTen).2.2
        replace X15 : Stand p l e ({ frames := 1, cells := 7, slots := 60, locals := 14 } : Room) s m #[(.int (5 : Int32)), (.ref a2)] below meth c T15 _ 4 30 := X15
        show Go p e below _ (T15.setTop (mkF m 77 _ [(.ref b15), (.int (1 : Int32)), (.ref b11)]))
        obtain ⟨cl16, Ar16, in16, -⟩ := A_b11_15.hin (j := (1 : Int32)) (by decide) (by decide)
        obtain ⟨T16, h16, X16, e16, W16, st16⟩ := Jvm.RoadKit.stR X15 hx hZ e15 Ar16 in16 rfl (A_b11_15.sto (Ins.self Ex15)) (g := (mkF m 77 #[.val (.int (5 : Int32)), .val (.ref a2), .val (.ref b3), .val (.ref b11), .val (.int (1 : Int32)), .val (.int (Int32.ofNat ee.length)), sl6, sm6, .unset, .unset, .unset] [(.ref b15), (.int (1 : Int32)), (.ref b11)])) rfl rfl (hb hby d4_77)
        refine Go.step st16 ?_
        have N16 := Fr.snoc X16 N14 g_b11
        have A_a2_16 := A_a2_15.other W16 ne_a2_b11
        have E_b3_16 := E_b3_15.wr W16
        have A_b12_16 := A_b12_15.other W16 (Ne.symm ne_b11_b12)
        have E_b12_16 := E_b12_15.wr W16
        have A_b3_16 := A_b3_15.other W16 ne_b3_b11
        have A_b15_16 := A_b15_15.other W16 (Ne.symm ne_b11_b15)
        have E_b15_16 := Ex15.wr W16
        have Z16 := Nat.le_trans Z15 (Keep.of_wr W16).1
        have KK16 : Keep h0 h16 [] := KK15.wr W16 (Or.inr sz_b11)
        have A_b11_16 : RAry Z h16 b11 (.array .int) "[I" 5 (upA (upA (fun _ => .null) 0 (.ref b12)) 1 (.ref b15)) := A_b11_15.set W16 (by decide)
        show Go p e below _ (T16.setTop (mkF m 78 _ []))
        refine gA (q := 79) X16 hx (hb hby d4_78) rfl rfl rfl ?_
        refine gJ (q := 81) X16 hx (hb hby d4_79) rfl rfl ?_
        refine gC (q := 82) (v := 0) X16 hx (hb hby d4_81) rfl rfl ?_
        obtain ⟨cl17, Ar17, in17, -⟩ := A_b3_16.hin (j := (1 : Int32)) (by decide) (by decide)
        obtain ⟨T17, h17, X17, e17, W17, st17⟩ := stI X16 hx hZ e16 Ar17 in17 (g := (mkF m 82 #[.val (.int (5 : Int32)), .val (.ref a2), .val (.ref b3), .val (.ref b11), .val (.int (1 : Int32)), .val (.int (Int32.ofNat ee.length)), sl6, sm6, .unset, .unset, .unset] [(.int (0 : Int32)), (.int (1 : Int32)), (.ref b3)])) rfl rfl (hb hby d4_82)
        refine Go.step st17 ?_
        have N17 := Fr.snoc X17 N16 g_b3
        have A_a2_17 := A_a2_16.other W17 ne_a2_b3
        have E_b3_17 := E_b3_16.wr W17
        have A_b12_17 := A_b12_16.other W17 (Ne.symm ne_b3_b12)
        have E_b12_17 := E_b12_16.wr W17
        have A_b15_17 := A_b15_16.other W17 (Ne.symm ne_b3_b15)
        have E_b15_17 := E_b15_16.wr W17
        have A_b11_17 := A_b11_16.other W17 (Ne.symm ne_b3_b11)
        have Z17 := Nat.le_trans Z16 (Keep.of_wr W17).1
        have KK17 : Keep h0 h17 [] := KK16.wr W17 (Or.inr sz_b3)
        have A_b3_17 : Ary Z h17 b3 .int 5 (fun i => .int ((upA (upA (degF ee ee.length) 0 (0 : Int32)) 1 (0 : Int32)) i)) := A_b3_16.setI W17 (by decide)
        show Go p e below _ (T17.setTop (mkF m 83 _ []))
        refine Go.step (fun t k => XS.iinc X17.here hx rfl (hb hby d4_83) rfl (l' := #[.val (.int (5 : Int32)), .val (.ref a2), .val (.ref b3), .val (.ref b11), .val (.int (2 : Int32)), .val (.int (Int32.ofNat ee.length)), sl6, sm6, .unset, .unset, .unset]) rfl k) ?_
        show Go p e below _ (T17.setTop (mkF m 86 _ []))
        refine Go.step (fun t k => XS.goto X17.here hx rfl (pc0 := 86) (pc' := 62) rfl (hb hby d4_86) (by decide) (by decide) k) ?_
        show Go p e below _ (T17.setTop (mkF m 62 _ []))
        refine gJ (q := 64) X17 hx (hb hby d4_62) rfl rfl ?_
        refine gI (q := 65) X17 hx (hb hby d4_64) rfl rfl ?_
        refine Go.step (fun t k => XS.icmpNo X17.here hx rfl (hb hby d4_65) rfl (tlt (by decide : (2 : Int32) < (5 : Int32))).2.1 k) ?_
        show Go p e below _ (T17.setTop (mkF m 68 _ []))
        refine gA (q := 69) X17 hx (hb hby d4_68) rfl rfl rfl ?_
        refine gJ (q := 71) X17 hx (hb hby d4_69) rfl rfl ?_
        refine gA (q := 72) X17 hx (hb hby d4_71) rfl rfl rfl ?_
        refine gJ (q := 74) X17 hx (hb hby d4_72) rfl rfl ?_
        refine Go.step (ldI X17 hx hZ e17 A_b3_17 (j := (2 : Int32)) (by decide) (by decide) (g := (mkF m 74 _ [(.int (2 : Int32)), (.ref b3), (.int (2 : Int32)), (.ref b11)])) rfl rfl (hb hby d4_74)) ?_
        show Go p e below _ (T17.setTop (mkF m 75 _ [(.int ((degF ee ee.length) 2)), (.int (2 : Int32)), (.ref b11)]))
        obtain ⟨T18, h18, k18, X18, e18, E18, A18, Ex18, st18⟩ := newPE X17 hx hZ (hw _ (List.mem_of_getElem? (i := 16) rfl)) e17 (g := (mkF m 75 #[.val (.int (5 : Int32)), .val (.ref a2), .val (.ref b3), .val (.ref b11), .val (.int (2 : Int32)), .val (.int (Int32.ofNat ee.length)), sl6, sm6, .unset, .unset, .unset] [(.int ((degF ee ee.length) 2)), (.int (2 : Int32)), (.ref b11)])) rfl (hb hby d4_75) rfl ((degT ee 2 hTen).1 : ¬ ((degF ee ee.length) 2) < 0) (cap := 10) ((degT ee 2 hTen).2.1 : ((degF ee ee.length) 2).toNatClampNeg ≤ 10) (by decide) (by decide) (by decide) (ad := "[I") rfl
        obtain ⟨b18, g18⟩ : ∃ z, z = h17.size := ⟨_, rfl⟩
        rw [← g18] at A18 Ex18 st18
        have g_b18 : n0 ≤ b18 := Nat.le_trans Z17 (Nat.le_of_eq g18.symm)
        have sz_b18 : h0.size ≤ b18 := Nat.le_trans KK17.1 (Nat.le_of_eq g18.symm)
        have ne_a2_b18 : a2 ≠ b18 := Nat.ne_of_lt (Nat.lt_of_lt_of_le A_a2_17.lt (Nat.le_of_eq g18.symm))
        have ne_b3_b18 : b3 ≠ b18 := Nat.ne_of_lt (Nat.lt_of_lt_of_le E_b3_17.lt (Nat.le_of_eq g18.symm))
        have ne_b12_b18 : b12 ≠ b18 := Nat.ne_of_lt (Nat.lt_of_lt_of_le A_b12_17.lt (Nat.le_of_eq g18.symm))
        have ne_b15_b18 : b15 ≠ b18 := Nat.ne_of_lt (Nat.lt_of_lt_of_le A_b15_17.lt (Nat.le_of_eq g18.symm))
        have ne_b11_b18 : b11 ≠ b18 := Nat.ne_of_lt (Nat.lt_of_lt_of_le A_b11_17.lt (Nat.le_of_eq g18.symm))
        refine Go.step st18 ?_
        have A_a2_18 := A_a2_17.ext E18
        have E_b3_18 := E_b3_17.ext E18
        have A_b12_18 := A_b12_17.ext E18
        have E_b12_18 := E_b12_17.ext E18
        have A_b15_18 := A_b15_17.ext E18
        have E_b15_18 := E_b15_17.ext E18
        have A_b11_18 := A_b11_17.ext E18
        have A_b3_18 := A_b3_17.ext E18
        have Z18 := Nat.le_trans Z17 E18.1
        have KK18 : Keep h0 h18 [] := KK17.ext E18
        have A_b18_18 : Ary Z h18 b18 .int (nb ee 2).length (fun i => .int ((fun _ => (0 : Int32)) i)) := Ary.mk A18 ((degT ee 2 hTen).1 : ¬ ((degF ee ee.length) 2) < 0) (degT ee 2 hTen).2.2
        replace X18 : Stand p l e ({ frames := 1, cells := 7, slots := 60, locals := 14 } : Room) s m #[(.int (5 : Int32)), (.ref a2)] below meth c T18 _ 5 40 := X18
        show Go p e below _ (T18.setTop (mkF m 77 _ [(.ref b18), (.int (2 : Int32)), (.ref b11)]))
        obtain ⟨cl19, Ar19, in19, -⟩ := A_b11_18.hin (j := (2 : Int32)) (by decide) (by decide)
        obtain ⟨T19, h19, X19, e19, W19, st19⟩ := Jvm.RoadKit.stR X18 hx hZ e18 Ar19 in19 rfl (A_b11_18.sto (Ins.self Ex18)) (g := (mkF m 77 #[.val (.int (5 : Int32)), .val (.ref a2), .val (.ref b3), .val (.ref b11), .val (.int (2 : Int32)), .val (.int (Int32.ofNat ee.length)), sl6, sm6, .unset, .unset, .unset] [(.ref b18), (.int (2 : Int32)), (.ref b11)])) rfl rfl (hb hby d4_77)
        refine Go.step st19 ?_
        have N19 := Fr.snoc X19 N17 g_b11
        have A_a2_19 := A_a2_18.other W19 ne_a2_b11
        have E_b3_19 := E_b3_18.wr W19
        have A_b12_19 := A_b12_18.other W19 (Ne.symm ne_b11_b12)
        have E_b12_19 := E_b12_18.wr W19
        have A_b15_19 := A_b15_18.other W19 (Ne.symm ne_b11_b15)
        have E_b15_19 := E_b15_18.wr W19
        have A_b3_19 := A_b3_18.other W19 ne_b3_b11
        have A_b18_19 := A_b18_18.other W19 (Ne.symm ne_b11_b18)
        have E_b18_19 := Ex18.wr W19
        have Z19 := Nat.le_trans Z18 (Keep.of_wr W19).1
        have KK19 : Keep h0 h19 [] := KK18.wr W19 (Or.inr sz_b11)
        have A_b11_19 : RAry Z h19 b11 (.array .int) "[I" 5 (upA (upA (upA (fun _ => .null) 0 (.ref b12)) 1 (.ref b15)) 2 (.ref b18)) := A_b11_18.set W19 (by decide)
        show Go p e below _ (T19.setTop (mkF m 78 _ []))
        refine gA (q := 79) X19 hx (hb hby d4_78) rfl rfl rfl ?_
        refine gJ (q := 81) X19 hx (hb hby d4_79) rfl rfl ?_
        refine gC (q := 82) (v := 0) X19 hx (hb hby d4_81) rfl rfl ?_
        obtain ⟨cl20, Ar20, in20, -⟩ := A_b3_19.hin (j := (2 : Int32)) (by decide) (by decide)
        obtain ⟨T20, h20, X20, e20, W20, st20⟩ := stI X19 hx hZ e19 Ar20 in20 (g := (mkF m 82 #[.val (.int (5 : Int32)), .val (.ref a2), .val (.ref b3), .val (.ref b11), .val (.int (2 : Int32)), .val (.int (Int32.ofNat ee.length)), sl6, sm6, .unset, .unset, .unset] [(.int (0 : Int32)), (.int (2 : Int32)), (.ref b3)])) rfl rfl (hb hby d4_82)
        refine Go.step st20 ?_
        have N20 := Fr.snoc X20 N19 g_b3
        have A_a2_20 := A_a2_19.other W20 ne_a2_b3
        have E_b3_20 := E_b3_19.wr W20
        have A_b12_20 := A_b12_19.other W20 (Ne.symm ne_b3_b12)
        have E_b12_20 := E_b12_19.wr W20
        have A_b15_20 := A_b15_19.other W20 (Ne.symm ne_b3_b15)
        have E_b15_20 := E_b15_19.wr W20
        have A_b18_20 := A_b18_19.other W20 (Ne.symm ne_b3_b18)
        have E_b18_20 := E_b18_19.wr W20
        have A_b11_20 := A_b11_19.other W20 (Ne.symm ne_b3_b11)
        have Z20 := Nat.le_trans Z19 (Keep.of_wr W20).1
        have KK20 : Keep h0 h20 [] := KK19.wr W20 (Or.inr sz_b3)
        have A_b3_20 : Ary Z h20 b3 .int 5 (fun i => .int ((upA (upA (upA (degF ee ee.length) 0 (0 : Int32)) 1 (0 : Int32)) 2 (0 : Int32)) i)) := A_b3_19.setI W20 (by decide)
        show Go p e below _ (T20.setTop (mkF m 83 _ []))
        refine Go.step (fun t k => XS.iinc X20.here hx rfl (hb hby d4_83) rfl (l' := #[.val (.int (5 : Int32)), .val (.ref a2), .val (.ref b3), .val (.ref b11), .val (.int (3 : Int32)), .val (.int (Int32.ofNat ee.length)), sl6, sm6, .unset, .unset, .unset]) rfl k) ?_
        show Go p e below _ (T20.setTop (mkF m 86 _ []))
        refine Go.step (fun t k => XS.goto X20.here hx rfl (pc0 := 86) (pc' := 62) rfl (hb hby d4_86) (by decide) (by decide) k) ?_
        show Go p e below _ (T20.setTop (mkF m 62 _ []))
        refine gJ (q := 64) X20 hx (hb hby d4_62) rfl rfl ?_
        refine gI (q := 65) X20 hx (hb hby d4_64) rfl rfl ?_
        refine Go.step (fun t k => XS.icmpNo X20.here hx rfl (hb hby d4_65) rfl (tlt (by decide : (3 : Int32) < (5 : Int32))).2.1 k) ?_
        show Go p e below _ (T20.setTop (mkF m 68 _ []))
        refine gA (q := 69) X20 hx (hb hby d4_68) rfl rfl rfl ?_
        refine gJ (q := 71) X20 hx (hb hby d4_69) rfl rfl ?_
        refine gA (q := 72) X20 hx (hb hby d4_71) rfl rfl rfl ?_
        refine gJ (q := 74) X20 hx (hb hby d4_72) rfl rfl ?_
        refine Go.step (ldI X20 hx hZ e20 A_b3_20 (j := (3 : Int32)) (by decide) (by decide) (g := (mkF m 74 _ [(.int (3 : Int32)), (.ref b3), (.int (3 : Int32)), (.ref b11)])) rfl rfl (hb hby d4_74)) ?_
        show Go p e below _ (T20.setTop (mkF m 75 _ [(.int ((degF ee ee.length) 3)), (.int (3 : Int32)), (.ref b11)]))
        obtain ⟨T21, h21, k21, X21, e21, E21, A21, Ex21, st21⟩ := newPE X20 hx hZ (hw _ (List.mem_of_getElem? (i := 16) rfl)) e20 (g := (mkF m 75 #[.val (.int (5 : Int32)), .val (.ref a2), .val (.ref b3), .val (.ref b11), .val (.int (3 : Int32)), .val (.int (Int32.ofNat ee.length)), sl6, sm6, .unset, .unset, .unset] [(.int ((degF ee ee.length) 3)), (.int (3 : Int32)), (.ref b11)])) rfl (hb hby d4_75) rfl ((degT ee 3 hTen).1 : ¬ ((degF ee ee.length) 3) < 0) (cap := 10) ((degT ee 3 hTen).2.1 : ((degF ee ee.length) 3).toNatClampNeg ≤ 10) (by decide) (by decide) (by decide) (ad := "[I") rfl
        obtain ⟨b21, g21⟩ : ∃ z, z = h20.size := ⟨_, rfl⟩
        rw [← g21] at A21 Ex21 st21
        have g_b21 : n0 ≤ b21 := Nat.le_trans Z20 (Nat.le_of_eq g21.symm)
        have sz_b21 : h0.size ≤ b21 := Nat.le_trans KK20.1 (Nat.le_of_eq g21.symm)
        have ne_a2_b21 : a2 ≠ b21 := Nat.ne_of_lt (Nat.lt_of_lt_of_le A_a2_20.lt (Nat.le_of_eq g21.symm))
        have ne_b3_b21 : b3 ≠ b21 := Nat.ne_of_lt (Nat.lt_of_lt_of_le E_b3_20.lt (Nat.le_of_eq g21.symm))
        have ne_b12_b21 : b12 ≠ b21 := Nat.ne_of_lt (Nat.lt_of_lt_of_le A_b12_20.lt (Nat.le_of_eq g21.symm))
        have ne_b15_b21 : b15 ≠ b21 := Nat.ne_of_lt (Nat.lt_of_lt_of_le A_b15_20.lt (Nat.le_of_eq g21.symm))
        have ne_b18_b21 : b18 ≠ b21 := Nat.ne_of_lt (Nat.lt_of_lt_of_le A_b18_20.lt (Nat.le_of_eq g21.symm))
        have ne_b11_b21 : b11 ≠ b21 := Nat.ne_of_lt (Nat.lt_of_lt_of_le A_b11_20.lt (Nat.le_of_eq g21.symm))
        refine Go.step st21 ?_
        have A_a2_21 := A_a2_20.ext E21
        have E_b3_21 := E_b3_20.ext E21
        have A_b12_21 := A_b12_20.ext E21
        have E_b12_21 := E_b12_20.ext E21
        have A_b15_21 := A_b15_20.ext E21
        have E_b15_21 := E_b15_20.ext E21
        have A_b18_21 := A_b18_20.ext E21
        have E_b18_21 := E_b18_20.ext E21
        have A_b11_21 := A_b11_20.ext E21
        have A_b3_21 := A_b3_20.ext E21
        have Z21 := Nat.le_trans Z20 E21.1
        have KK21 : Keep h0 h21 [] := KK20.ext E21
        have A_b21_21 : Ary Z h21 b21 .int (nb ee 3).length (fun i => .int ((fun _ => (0 : Int32)) i)) := Ary.mk A21 ((degT ee 3 hTen).1 : ¬ ((degF ee ee.length) 3) < 0) (degT ee 3 hTen).2.2
        replace X21 : Stand p l e ({ frames := 1, cells := 7, slots := 60, locals := 14 } : Room) s m #[(.int (5 : Int32)), (.ref a2)] below meth c T21 _ 6 50 := X21
        show Go p e below _ (T21.setTop (mkF m 77 _ [(.ref b21), (.int (3 : Int32)), (.ref b11)]))
        obtain ⟨cl22, Ar22, in22, -⟩ := A_b11_21.hin (j := (3 : Int32)) (by decide) (by decide)
        obtain ⟨T22, h22, X22, e22, W22, st22⟩ := Jvm.RoadKit.stR X21 hx hZ e21 Ar22 in22 rfl (A_b11_21.sto (Ins.self Ex21)) (g := (mkF m 77 #[.val (.int (5 : Int32)), .val (.ref a2), .val (.ref b3), .val (.ref b11), .val (.int (3 : Int32)), .val (.int (Int32.ofNat ee.length)), sl6, sm6, .unset, .unset, .unset] [(.ref b21), (.int (3 : Int32)), (.ref b11)])) rfl rfl (hb hby d4_77)
        refine Go.step st22 ?_
        have N22 := Fr.snoc X22 N20 g_b11
        have A_a2_22 := A_a2_21.other W22 ne_a2_b11
        have E_b3_22 := E_b3_21.wr W22
        have A_b12_22 := A_b12_21.other W22 (Ne.symm ne_b11_b12)
        have E_b12_22 := E_b12_21.wr W22
        have A_b15_22 := A_b15_21.other W22 (Ne.symm ne_b11_b15)
        have E_b15_22 := E_b15_21.wr W22
        have A_b18_22 := A_b18_21.other W22 (Ne.symm ne_b11_b18)
        have E_b18_22 := E_b18_21.wr W22
        have A_b3_22 := A_b3_21.other W22 ne_b3_b11
        have A_b21_22 := A_b21_21.other W22 (Ne.symm ne_b11_b21)
        have E_b21_22 := Ex21.wr W22
        have Z22 := Nat.le_trans Z21 (Keep.of_wr W22).1
        have KK22 : Keep h0 h22 [] := KK21.wr W22 (Or.inr sz_b11)
        have A_b11_22 : RAry Z h22 b11 (.array .int) "[I" 5 (upA (upA (upA (upA (fun _ => .null) 0 (.ref b12)) 1 (.ref b15)) 2 (.ref b18)) 3 (.ref b21)) := A_b11_21.set W22 (by decide)
        show Go p e below _ (T22.setTop (mkF m 78 _ []))
        refine gA (q := 79) X22 hx (hb hby d4_78) rfl rfl rfl ?_
        refine gJ (q := 81) X22 hx (hb hby d4_79) rfl rfl ?_
        refine gC (q := 82) (v := 0) X22 hx (hb hby d4_81) rfl rfl ?_
        obtain ⟨cl23, Ar23, in23, -⟩ := A_b3_22.hin (j := (3 : Int32)) (by decide) (by decide)
        obtain ⟨T23, h23, X23, e23, W23, st23⟩ := stI X22 hx hZ e22 Ar23 in23 (g := (mkF m 82 #[.val (.int (5 : Int32)), .val (.ref a2), .val (.ref b3), .val (.ref b11), .val (.int (3 : Int32)), .val (.int (Int32.ofNat ee.length)), sl6, sm6, .unset, .unset, .unset] [(.int (0 : Int32)), (.int (3 : Int32)), (.ref b3)])) rfl rfl (hb hby d4_82)
        refine Go.step st23 ?_
        have N23 := Fr.snoc X23 N22 g_b3
        have A_a2_23 := A_a2_22.other W23 ne_a2_b3
        have E_b3_23 := E_b3_22.wr W23
        have A_b12_23 := A_b12_22.other W23 (Ne.symm ne_b3_b12)
        have E_b12_23 := E_b12_22.wr W23
        have A_b15_23 := A_b15_22.other W23 (Ne.symm ne_b3_b15)
        have E_b15_23 := E_b15_22.wr W23
        have A_b18_23 := A_b18_22.other W23 (Ne.symm ne_b3_b18)
        have E_b18_23 := E_b18_22.wr W23
        have A_b21_23 := A_b21_22.other W23 (Ne.symm ne_b3_b21)
        have E_b21_23 := E_b21_22.wr W23
        have A_b11_23 := A_b11_22.other W23 (Ne.symm ne_b3_b11)
        have Z23 := Nat.le_trans Z22 (Keep.of_wr W23).1
        have KK23 : Keep h0 h23 [] := KK22.wr W23 (Or.inr sz_b3)
        have A_b3_23 : Ary Z h23 b3 .int 5 (fun i => .int ((upA (upA (upA (upA (degF ee ee.length) 0 (0 : Int32)) 1 (0 : Int32)) 2 (0 : Int32)) 3 (0 : Int32)) i)) := A_b3_22.setI W23 (by decide)
        show Go p e below _ (T23.setTop (mkF m 83 _ []))
        refine Go.step (fun t k => XS.iinc X23.here hx rfl (hb hby d4_83) rfl (l' := #[.val (.int (5 : Int32)), .val (.ref a2), .val (.ref b3), .val (.ref b11), .val (.int (4 : Int32)), .val (.int (Int32.ofNat ee.length)), sl6, sm6, .unset, .unset, .unset]) rfl k) ?_
        show Go p e below _ (T23.setTop (mkF m 86 _ []))
        refine Go.step (fun t k => XS.goto X23.here hx rfl (pc0 := 86) (pc' := 62) rfl (hb hby d4_86) (by decide) (by decide) k) ?_
        show Go p e below _ (T23.setTop (mkF m 62 _ []))
        refine gJ (q := 64) X23 hx (hb hby d4_62) rfl rfl ?_
        refine gI (q := 65) X23 hx (hb hby d4_64) rfl rfl ?_
        refine Go.step (fun t k => XS.icmpNo X23.here hx rfl (hb hby d4_65) rfl (tlt (by decide : (4 : Int32) < (5 : Int32))).2.1 k) ?_
        show Go p e below _ (T23.setTop (mkF m 68 _ []))
        refine gA (q := 69) X23 hx (hb hby d4_68) rfl rfl rfl ?_
        refine gJ (q := 71) X23 hx (hb hby d4_69) rfl rfl ?_
        refine gA (q := 72) X23 hx (hb hby d4_71) rfl rfl rfl ?_
        refine gJ (q := 74) X23 hx (hb hby d4_72) rfl rfl ?_
        refine Go.step (ldI X23 hx hZ e23 A_b3_23 (j := (4 : Int32)) (by decide) (by decide) (g := (mkF m 74 _ [(.int (4 : Int32)), (.ref b3), (.int (4 : Int32)), (.ref b11)])) rfl rfl (hb hby d4_74)) ?_
        show Go p e below _ (T23.setTop (mkF m 75 _ [(.int ((degF ee ee.length) 4)), (.int (4 : Int32)), (.ref b11)]))
        obtain ⟨T24, h24, k24, X24, e24, E24, A24, Ex24, st24⟩ := newPE X23 hx hZ (hw _ (List.mem_of_getElem? (i := 16) rfl)) e23 (g := (mkF m 75 #[.val (.int (5 : Int32)), .val (.ref a2), .val (.ref b3), .val (.ref b11), .val (.int (4 : Int32)), .val (.int (Int32.ofNat ee.length)), sl6, sm6, .unset, .unset, .unset] [(.int ((degF ee ee.length) 4)), (.int (4 : Int32)), (.ref b11)])) rfl (hb hby d4_75) rfl ((degT ee 4 hTen).1 : ¬ ((degF ee ee.length) 4) < 0) (cap := 10) ((degT ee 4 hTen).2.1 : ((degF ee ee.length) 4).toNatClampNeg ≤ 10) (by decide) (by decide) (by decide) (ad := "[I") rfl
        obtain ⟨b24, g24⟩ : ∃ z, z = h23.size := ⟨_, rfl⟩
        rw [← g24] at A24 Ex24 st24
        have g_b24 : n0 ≤ b24 := Nat.le_trans Z23 (Nat.le_of_eq g24.symm)
        have sz_b24 : h0.size ≤ b24 := Nat.le_trans KK23.1 (Nat.le_of_eq g24.symm)
        have ne_a2_b24 : a2 ≠ b24 := Nat.ne_of_lt (Nat.lt_of_lt_of_le A_a2_23.lt (Nat.le_of_eq g24.symm))
        have ne_b3_b24 : b3 ≠ b24 := Nat.ne_of_lt (Nat.lt_of_lt_of_le E_b3_23.lt (Nat.le_of_eq g24.symm))
        have ne_b12_b24 : b12 ≠ b24 := Nat.ne_of_lt (Nat.lt_of_lt_of_le A_b12_23.lt (Nat.le_of_eq g24.symm))
        have ne_b15_b24 : b15 ≠ b24 := Nat.ne_of_lt (Nat.lt_of_lt_of_le A_b15_23.lt (Nat.le_of_eq g24.symm))
        have ne_b18_b24 : b18 ≠ b24 := Nat.ne_of_lt (Nat.lt_of_lt_of_le A_b18_23.lt (Nat.le_of_eq g24.symm))
        have ne_b21_b24 : b21 ≠ b24 := Nat.ne_of_lt (Nat.lt_of_lt_of_le A_b21_23.lt (Nat.le_of_eq g24.symm))
        have ne_b11_b24 : b11 ≠ b24 := Nat.ne_of_lt (Nat.lt_of_lt_of_le A_b11_23.lt (Nat.le_of_eq g24.symm))
        refine Go.step st24 ?_
        have A_a2_24 := A_a2_23.ext E24
        have E_b3_24 := E_b3_23.ext E24
        have A_b12_24 := A_b12_23.ext E24
        have E_b12_24 := E_b12_23.ext E24
        have A_b15_24 := A_b15_23.ext E24
        have E_b15_24 := E_b15_23.ext E24
        have A_b18_24 := A_b18_23.ext E24
        have E_b18_24 := E_b18_23.ext E24
        have A_b21_24 := A_b21_23.ext E24
        have E_b21_24 := E_b21_23.ext E24
        have A_b11_24 := A_b11_23.ext E24
        have A_b3_24 := A_b3_23.ext E24
        have Z24 := Nat.le_trans Z23 E24.1
        have KK24 : Keep h0 h24 [] := KK23.ext E24
        have A_b24_24 : Ary Z h24 b24 .int (nb ee 4).length (fun i => .int ((fun _ => (0 : Int32)) i)) := Ary.mk A24 ((degT ee 4 hTen).1 : ¬ ((degF ee ee.length) 4) < 0) (degT ee 4 hTen).2.2
        replace X24 : Stand p l e ({ frames := 1, cells := 7, slots := 60, locals := 14 } : Room) s m #[(.int (5 : Int32)), (.ref a2)] below meth c T24 _ 7 60 := X24
        show Go p e below _ (T24.setTop (mkF m 77 _ [(.ref b24), (.int (4 : Int32)), (.ref b11)]))
        obtain ⟨cl25, Ar25, in25, -⟩ := A_b11_24.hin (j := (4 : Int32)) (by decide) (by decide)
        obtain ⟨T25, h25, X25, e25, W25, st25⟩ := Jvm.RoadKit.stR X24 hx hZ e24 Ar25 in25 rfl (A_b11_24.sto (Ins.self Ex24)) (g := (mkF m 77 #[.val (.int (5 : Int32)), .val (.ref a2), .val (.ref b3), .val (.ref b11), .val (.int (4 : Int32)), .val (.int (Int32.ofNat ee.length)), sl6, sm6, .unset, .unset, .unset] [(.ref b24), (.int (4 : Int32)), (.ref b11)])) rfl rfl (hb hby d4_77)
        refine Go.step st25 ?_
        have N25 := Fr.snoc X25 N23 g_b11
        have A_a2_25 := A_a2_24.other W25 ne_a2_b11
        have E_b3_25 := E_b3_24.wr W25
        have A_b12_25 := A_b12_24.other W25 (Ne.symm ne_b11_b12)
        have E_b12_25 := E_b12_24.wr W25
        have A_b15_25 := A_b15_24.other W25 (Ne.symm ne_b11_b15)
        have E_b15_25 := E_b15_24.wr W25
        have A_b18_25 := A_b18_24.other W25 (Ne.symm ne_b11_b18)
        have E_b18_25 := E_b18_24.wr W25
        have A_b21_25 := A_b21_24.other W25 (Ne.symm ne_b11_b21)
        have E_b21_25 := E_b21_24.wr W25
        have A_b3_25 := A_b3_24.other W25 ne_b3_b11
        have A_b24_25 := A_b24_24.other W25 (Ne.symm ne_b11_b24)
        have E_b24_25 := Ex24.wr W25
        have Z25 := Nat.le_trans Z24 (Keep.of_wr W25).1
        have KK25 : Keep h0 h25 [] := KK24.wr W25 (Or.inr sz_b11)
        have A_b11_25 : RAry Z h25 b11 (.array .int) "[I" 5 (upA (upA (upA (upA (upA (fun _ => .null) 0 (.ref b12)) 1 (.ref b15)) 2 (.ref b18)) 3 (.ref b21)) 4 (.ref b24)) := A_b11_24.set W25 (by decide)
        show Go p e below _ (T25.setTop (mkF m 78 _ []))
        refine gA (q := 79) X25 hx (hb hby d4_78) rfl rfl rfl ?_
        refine gJ (q := 81) X25 hx (hb hby d4_79) rfl rfl ?_
        refine gC (q := 82) (v := 0) X25 hx (hb hby d4_81) rfl rfl ?_
        obtain ⟨cl26, Ar26, in26, -⟩ := A_b3_25.hin (j := (4 : Int32)) (by decide) (by decide)
        obtain ⟨T26, h26, X26, e26, W26, st26⟩ := stI X25 hx hZ e25 Ar26 in26 (g := (mkF m 82 #[.val (.int (5 : Int32)), .val (.ref a2), .val (.ref b3), .val (.ref b11), .val (.int (4 : Int32)), .val (.int (Int32.ofNat ee.length)), sl6, sm6, .unset, .unset, .unset] [(.int (0 : Int32)), (.int (4 : Int32)), (.ref b3)])) rfl rfl (hb hby d4_82)
        refine Go.step st26 ?_
        have N26 := Fr.snoc X26 N25 g_b3
        have A_a2_26 := A_a2_25.other W26 ne_a2_b3
        have E_b3_26 := E_b3_25.wr W26
        have A_b12_26 := A_b12_25.other W26 (Ne.symm ne_b3_b12)
        have E_b12_26 := E_b12_25.wr W26
        have A_b15_26 := A_b15_25.other W26 (Ne.symm ne_b3_b15)
        have E_b15_26 := E_b15_25.wr W26
        have A_b18_26 := A_b18_25.other W26 (Ne.symm ne_b3_b18)
        have E_b18_26 := E_b18_25.wr W26
        have A_b21_26 := A_b21_25.other W26 (Ne.symm ne_b3_b21)
        have E_b21_26 := E_b21_25.wr W26
        have A_b24_26 := A_b24_25.other W26 (Ne.symm ne_b3_b24)
        have E_b24_26 := E_b24_25.wr W26
        have A_b11_26 := A_b11_25.other W26 (Ne.symm ne_b3_b11)
        have Z26 := Nat.le_trans Z25 (Keep.of_wr W26).1
        have KK26 : Keep h0 h26 [] := KK25.wr W26 (Or.inr sz_b3)
        have A_b3_26 : Ary Z h26 b3 .int 5 (fun i => .int ((upA (upA (upA (upA (upA (degF ee ee.length) 0 (0 : Int32)) 1 (0 : Int32)) 2 (0 : Int32)) 3 (0 : Int32)) 4 (0 : Int32)) i)) := A_b3_25.setI W26 (by decide)
        show Go p e below _ (T26.setTop (mkF m 83 _ []))
        refine Go.step (fun t k => XS.iinc X26.here hx rfl (hb hby d4_83) rfl (l' := #[.val (.int (5 : Int32)), .val (.ref a2), .val (.ref b3), .val (.ref b11), .val (.int (5 : Int32)), .val (.int (Int32.ofNat ee.length)), sl6, sm6, .unset, .unset, .unset]) rfl k) ?_
        show Go p e below _ (T26.setTop (mkF m 86 _ []))
        refine Go.step (fun t k => XS.goto X26.here hx rfl (pc0 := 86) (pc' := 62) rfl (hb hby d4_86) (by decide) (by decide) k) ?_
        show Go p e below _ (T26.setTop (mkF m 62 _ []))
        refine gJ (q := 64) X26 hx (hb hby d4_62) rfl rfl ?_
        refine gI (q := 65) X26 hx (hb hby d4_64) rfl rfl ?_
        refine Go.step (fun t k => XS.icmpYes X26.here hx rfl (pc0 := 65) (pc' := 89) rfl (hb hby d4_65) rfl (flt (by decide : ¬ ((5 : Int32) < (5 : Int32)))).2.1 (by decide) (by decide) k) ?_
        show Go p e below _ (T26.setTop (mkF m 89 _ []))
        show Go p e below _ (T26.setTop (mkF m 89 _ []))
        refine gA (q := 90) X26 hx (hb hby d4_89) rfl rfl rfl ?_
        refine Go.step (fun t k => XS.astore X26.here hx rfl (hb hby d4_90) rfl rfl (l' := #[.val (.int (5 : Int32)), .val (.ref a2), .val (.ref b3), .val (.ref b11), .val (.ref a2), .val (.int (Int32.ofNat ee.length)), sl6, sm6, .unset, .unset, .unset]) rfl k) ?_
        show Go p e below _ (T26.setTop (mkF m 92 _ []))
        refine gB (q := 94) X26 hx (hb hby d4_92) rfl rfl rfl ?_
        refine Go.step (lenA X26 hx hZ e26 A_a2_26 (g := (mkF m 94 _ [(.ref a2)])) rfl rfl (hb hby d4_94)) ?_
        show Go p e below _ (T26.setTop (mkF m 95 _ [(.int ee.length.toInt32)]))
        refine Go.step (fun t k => XS.istore X26.here hx rfl (hb hby d4_95) rfl (l' := #[.val (.int (5 : Int32)), .val (.ref a2), .val (.ref b3), .val (.ref b11), .val (.ref a2), .val (.int ee.length.toInt32), sl6, sm6, .unset, .unset, .unset]) rfl k) ?_
        show Go p e below _ (T26.setTop (mkF m 97 _ []))
        refine gC (q := 98) (v := 0) X26 hx (hb hby d4_97) rfl rfl ?_
        refine Go.step (fun t k => XS.istore X26.here hx rfl (hb hby d4_98) rfl (l' := #[.val (.int (5 : Int32)), .val (.ref a2), .val (.ref b3), .val (.ref b11), .val (.ref a2), .val (.int ee.length.toInt32), .val (.int (0 : Int32)), .unset, .unset, .unset, .unset]) (by rcases hsl6 with ⟨rfl, rfl⟩ | ⟨w, rfl, rfl⟩ <;> rfl) k) ?_
        show Go p e below _ (T26.setTop (mkF m 100 _ []))
        have LOOP100 : ∀ (mm : Nat) (kk : Nat) (sl9 : Slot) (hsl9 : One sl9) (sl10 : Slot) (hsl10 : One sl10) (sl7 sm7 : Slot) (hsl7 : Two sl7 sm7) (Tl27 : State) (Ll27 : List Loc) (hl27 : Heap) (hmm : ee.length - kk = mm) (hk : kk ≤ ee.length) (Xl27 : Stand p l e ({ frames := 1, cells := 7, slots := 60, locals := 14 } : Room) s m #[(.int (5 : Int32)), (.ref a2)] below meth c Tl27 Ll27 7 60) (Nl27 : Fr n0 Ll27) (el27 : Tl27.heap = hl27) (KKl27 : Keep h0 hl27 []) (Zl27 : n0 ≤ hl27.size) (A_a2_l27 : Ary Z hl27 a2 .long ee.length (fun i => .long ((encF ee) i))) (A_b12_l27 : Ary Z hl27 b12 .int (nb ee 0).length (fun i => .int ((rowF (nb (ee.take kk) 0)) i))) (A_b15_l27 : Ary Z hl27 b15 .int (nb ee 1).length (fun i => .int ((rowF (nb (ee.take kk) 1)) i))) (A_b18_l27 : Ary Z hl27 b18 .int (nb ee 2).length (fun i => .int ((rowF (nb (ee.take kk) 2)) i))) (A_b21_l27 : Ary Z hl27 b21 .int (nb ee 3).length (fun i => .int ((rowF (nb (ee.take kk) 3)) i))) (A_b24_l27 : Ary Z hl27 b24 .int (nb ee 4).length (fun i => .int ((rowF (nb (ee.take kk) 4)) i))) (A_b11_l27 : RAry Z hl27 b11 (.array .int) "[I" 5 (upA (upA (upA (upA (upA (fun _ => .null) 0 (.ref b12)) 1 (.ref b15)) 2 (.ref b18)) 3 (.ref b21)) 4 (.ref b24))) (A_b3_l27 : Ary Z hl27 b3 .int 5 (fun i => .int ((degF ee kk) i))), Go p e below (FinQ below s (Q4_5 Z a2 ee h0 n0) ({ frames := 1, cells := 7, slots := 60, locals := 14 } : Room).cells ({ frames := 1, cells := 7, slots := 60, locals := 14 } : Room).slots) (Tl27.setTop (mkF m 100 #[.val (.int (5 : Int32)), .val (.ref a2), .val (.ref b3), .val (.ref b11), .val (.ref a2), .val (.int ee.length.toInt32), .val (.int (Int32.ofNat kk)), sl7, sm7, sl9, sl10] [])) := by
          intro mm
          induction mm using Nat.strongRecOn with
          | _ mm ih =>
            intro kk sl9 hsl9 sl10 hsl10 sl7 sm7 hsl7 Tl27 Ll27 hl27 hmm hk Xl27 Nl27 el27 KKl27 Zl27 A_a2_l27 A_b12_l27 A_b15_l27 A_b18_l27 A_b21_l27 A_b24_l27 A_b11_l27 A_b3_l27
            show Go p e below _ (Tl27.setTop (mkF m 100 _ []))
            refine gJ (q := 102) Xl27 hx (hb hby d4_100) rfl rfl ?_
            refine gJ (q := 104) Xl27 hx (hb hby d4_102) rfl rfl ?_
            by_cases hc28 : (Int32.ofNat kk) < ee.length.toInt32
            · refine Go.step (fun t k => XS.icmpNo Xl27.here hx rfl (hb hby d4_104) rfl (tlt hc28).2.1 k) ?_
              show Go p e below _ (Tl27.setTop (mkF m 107 _ []))
              refine gB (q := 109) Xl27 hx (hb hby d4_107) rfl rfl rfl ?_
              refine gJ (q := 111) Xl27 hx (hb hby d4_109) rfl rfl ?_
              refine Go.step (ldJ Xl27 hx hZ el27 A_a2_l27 (j := (Int32.ofNat kk)) (of_nn (by omega)) (by rw [clamp_nat (by omega)]; exact j_lt hTen hk hc28) (g := (mkF m 111 _ [(.int (Int32.ofNat kk)), (.ref a2)])) rfl rfl (hb hby d4_111)) ?_
              show Go p e below _ (Tl27.setTop (mkF m 112 _ [(.long ((encF ee) (Int32.ofNat kk).toNatClampNeg))]))
              refine nameIt (fun zz : Int64 => Go p e below _ (Tl27.setTop (mkF m 112 #[.val (.int (5 : Int32)), .val (.ref a2), .val (.ref b3), .val (.ref b11), .val (.ref a2), .val (.int ee.length.toInt32), .val (.int (Int32.ofNat kk)), sl7, sm7, sl9, sl10] [(.long zz)]))) ((encF ee) (Int32.ofNat kk).toNatClampNeg) ?_
              intro v29 hv29
              show Go p e below _ (Tl27.setTop (mkF m 112 _ [(.long v29)]))
              refine Go.step (fun t k => XS.lstore Xl27.here hx rfl (hb hby d4_112) rfl (l' := #[.val (.int (5 : Int32)), .val (.ref a2), .val (.ref b3), .val (.ref b11), .val (.ref a2), .val (.int ee.length.toInt32), .val (.int (Int32.ofNat kk)), .val (.long v29), .second, sl9, sl10]) (by rcases hsl7 with ⟨rfl, rfl⟩ | ⟨w, rfl, rfl⟩ <;> rfl) k) ?_
              show Go p e below _ (Tl27.setTop (mkF m 114 _ []))
              have hkl : kk < ee.length := j_lt hTen hk hc28
              obtain ⟨ea, eb, hq, hab, hbn, hor⟩ := pick_5 hE hkl
              have hva : ea < 2147483648 := by omega
              have hvb : eb < 2147483648 := by omega
              rw [show v29 = enc (ea, eb) by rw [hv29, clamp_nat (by omega)]; exact congrArg enc hq]
              show Go p e below _ (Tl27.setTop (mkF m 114 _ []))
              refine Go.step (fun t k => XS.lload Xl27.here hx rfl (hb hby d4_114) rfl k) ?_
              show Go p e below _ (Tl27.setTop (mkF m 116 _ [(.long (enc (ea, eb)))]))
              obtain ⟨_, _, ⟨T30, L30, k30, n30⟩, -, X30, ⟨Lc30, hQ30, l30, y30, z30⟩, st30⟩ := Jvm.LawKit.callS Xl27 hx (y := (⟨"com/example/hertzbid/hertzbid/ConflictPairs", "first", "(J)I"⟩ : MethodName)) hown (mvT hZ (hw _ (List.mem_of_getElem? (i := 25) rfl))) (mvT hZ (hw _ (List.mem_of_getElem? (i := 26) rfl))) (mvT hZ (hw _ (List.mem_of_getElem? (i := 14) rfl))) (mvT hZ (hw _ (List.mem_of_getElem? (i := 27) rfl))) (by decide) (backOf (W := 0) (rm7 l Z a0 hw [] (enc (ea, eb)) hl27 n0 Zl27) hZ (hw _ (List.mem_of_getElem? (i := 27) rfl)) (hw _ (List.mem_of_getElem? (i := 14) rfl)) (by decide) (by decide)) (g := (mkF m 116 #[.val (.int (5 : Int32)), .val (.ref a2), .val (.ref b3), .val (.ref b11), .val (.ref a2), .val (.int ee.length.toInt32), .val (.int (Int32.ofNat kk)), .val (.long (enc (ea, eb))), .second, sl9, sl10] [(.long (enc (ea, eb)))])) rfl (by rw [hml]; rfl) (argsL := [(.long (enc (ea, eb)))]) (rest := []) (lenOf pd_2 rfl) rfl (by show 2 * 0 + _ ≤ _; exact Nat.le_of_eq rfl) (hb hby d4_116) (fun _ _ => ⟨rfl, el27, (by decide : 7 + 0 ≤ _), (by decide : 60 + 0 ≤ _)⟩)
              dsimp only [Pt.U, Pt.locs, Pt.cells, Pt.slots] at X30 l30 y30 z30 st30 hQ30
              replace y30 : k30 = 7 := y30
              replace z30 : n30 = 60 := z30
              subst y30 z30
              obtain ⟨rfl, N30q, e30⟩ := hQ30
              have N30 : Fr n0 L30 := Eq.mpr (congrArg (Fr n0) l30) (Fr.app Nl27 N30q)
              refine Go.step st30 ?_
              rw [f7_enc hab (Nat.lt_of_lt_of_le hbn (by decide))]
              show Go p e below _ (T30.setTop (mkF m 119 _ [(.int (Int32.ofNat ea))]))
              refine Go.step (fun t k => XS.istore X30.here hx rfl (hb hby d4_119) rfl (l' := #[.val (.int (5 : Int32)), .val (.ref a2), .val (.ref b3), .val (.ref b11), .val (.ref a2), .val (.int ee.length.toInt32), .val (.int (Int32.ofNat kk)), .val (.long (enc (ea, eb))), .second, .val (.int (Int32.ofNat ea)), sl10]) (by rcases hsl9 with rfl | ⟨w, rfl, hw⟩ <;> first | rfl | (cases w <;> first | rfl | (simp [Value.category] at hw))) k) ?_
              show Go p e below _ (T30.setTop (mkF m 121 _ []))
              refine Go.step (fun t k => XS.lload X30.here hx rfl (hb hby d4_121) rfl k) ?_
              show Go p e below _ (T30.setTop (mkF m 123 _ [(.long (enc (ea, eb)))]))
              obtain ⟨_, _, ⟨T31, L31, k31, n31⟩, -, X31, ⟨Lc31, hQ31, l31, y31, z31⟩, st31⟩ := Jvm.LawKit.callS X30 hx (y := (⟨"com/example/hertzbid/hertzbid/ConflictPairs", "second", "(J)I"⟩ : MethodName)) hown (mvT hZ (hw _ (List.mem_of_getElem? (i := 28) rfl))) (mvT hZ (hw _ (List.mem_of_getElem? (i := 29) rfl))) (mvT hZ (hw _ (List.mem_of_getElem? (i := 14) rfl))) (mvT hZ (hw _ (List.mem_of_getElem? (i := 30) rfl))) (by decide) (backOf (W := 0) (rm8 l Z a0 hw [] (enc (ea, eb)) hl27 n0 Zl27) hZ (hw _ (List.mem_of_getElem? (i := 30) rfl)) (hw _ (List.mem_of_getElem? (i := 14) rfl)) (by decide) (by decide)) (g := (mkF m 123 #[.val (.int (5 : Int32)), .val (.ref a2), .val (.ref b3), .val (.ref b11), .val (.ref a2), .val (.int ee.length.toInt32), .val (.int (Int32.ofNat kk)), .val (.long (enc (ea, eb))), .second, .val (.int (Int32.ofNat ea)), sl10] [(.long (enc (ea, eb)))])) rfl (by rw [hml]; rfl) (argsL := [(.long (enc (ea, eb)))]) (rest := []) (lenOf pd_2 rfl) rfl (by show 2 * 0 + _ ≤ _; exact Nat.le_of_eq rfl) (hb hby d4_123) (fun _ _ => ⟨rfl, e30, (by decide : 7 + 0 ≤ _), (by decide : 60 + 0 ≤ _)⟩)
              dsimp only [Pt.U, Pt.locs, Pt.cells, Pt.slots] at X31 l31 y31 z31 st31 hQ31
              replace y31 : k31 = 7 := y31
              replace z31 : n31 = 60 := z31
              subst y31 z31
              obtain ⟨rfl, N31q, e31⟩ := hQ31
              have N31 : Fr n0 L31 := Eq.mpr (congrArg (Fr n0) l31) (Fr.app N30 N31q)
              refine Go.step st31 ?_
              rw [f8_enc hab (Nat.lt_of_lt_of_le hbn (by decide))]
              show Go p e below _ (T31.setTop (mkF m 126 _ [(.int (Int32.ofNat eb))]))
              refine Go.step (fun t k => XS.istore X31.here hx rfl (hb hby d4_126) rfl (l' := #[.val (.int (5 : Int32)), .val (.ref a2), .val (.ref b3), .val (.ref b11), .val (.ref a2), .val (.int ee.length.toInt32), .val (.int (Int32.ofNat kk)), .val (.long (enc (ea, eb))), .second, .val (.int (Int32.ofNat ea)), .val (.int (Int32.ofNat eb))]) (by rcases hsl10 with rfl | ⟨w, rfl, hw⟩ <;> first | rfl | (cases w <;> first | rfl | (simp [Value.category] at hw))) k) ?_
              show Go p e below _ (T31.setTop (mkF m 128 _ []))
              rcases hor with ⟨rfl, rfl⟩ | ⟨rfl, rfl⟩ | ⟨rfl, rfl⟩ | ⟨rfl, rfl⟩ | ⟨rfl, rfl⟩ | ⟨rfl, rfl⟩ | ⟨rfl, rfl⟩ | ⟨rfl, rfl⟩ | ⟨rfl, rfl⟩ | ⟨rfl, rfl⟩
              · skip
                show Go p e below _ (T31.setTop (mkF m 128 #[.val (.int (5 : Int32)), .val (.ref a2), .val (.ref b3), .val (.ref b11), .val (.ref a2), .val (.int ee.length.toInt32), .val (.int (Int32.ofNat kk)), .val (.long (enc (0, 1))), .second, .val (.int (0 : Int32)), .val (.int (1 : Int32))] []))
                refine gA (q := 129) X31 hx (hb hby d4_128) rfl rfl rfl ?_
                refine gJ (q := 131) X31 hx (hb hby d4_129) rfl rfl ?_
                refine Go.step (ldR X31 hx hZ e31 A_b11_l27.ary rfl (j := (0 : Int32)) (by decide) (by decide) (g := (mkF m 131 _ [(.int (0 : Int32)), (.ref b11)])) rfl rfl (hb hby d4_131)) ?_
                show Go p e below _ (T31.setTop (mkF m 132 _ [(.ref b12)]))
                refine gA (q := 133) X31 hx (hb hby d4_132) rfl rfl rfl ?_
                refine gJ (q := 135) X31 hx (hb hby d4_133) rfl rfl ?_
                refine Go.step (S' := T31.setTop (mkF m 136 #[.val (.int (5 : Int32)), .val (.ref a2), .val (.ref b3), .val (.ref b11), .val (.ref a2), .val (.int ee.length.toInt32), .val (.int (Int32.ofNat kk)), .val (.long (enc (0, 1))), .second, .val (.int (0 : Int32)), .val (.int (1 : Int32))] [(.int (0 : Int32)), (.ref b3), (.int (0 : Int32)), (.ref b3), (.ref b12)])) (fun t k => ?_) ?_
                · jvm_step X31.here [X31.here.top, hx, (hb hby d4_135), Value.category]
                  exact k
                show Go p e below _ (T31.setTop (mkF m 136 _ [(.int (0 : Int32)), (.ref b3), (.int (0 : Int32)), (.ref b3), (.ref b12)]))
                refine Go.step (ldI X31 hx hZ e31 A_b3_l27 (j := (0 : Int32)) (by decide) (by decide) (g := (mkF m 136 _ [(.int (0 : Int32)), (.ref b3), (.int (0 : Int32)), (.ref b3), (.ref b12)])) rfl rfl (hb hby d4_136)) ?_
                show Go p e below _ (T31.setTop (mkF m 137 _ [(.int ((degF ee kk) 0)), (.int (0 : Int32)), (.ref b3), (.ref b12)]))
                refine Go.step (S' := T31.setTop (mkF m 138 #[.val (.int (5 : Int32)), .val (.ref a2), .val (.ref b3), .val (.ref b11), .val (.ref a2), .val (.int ee.length.toInt32), .val (.int (Int32.ofNat kk)), .val (.long (enc (0, 1))), .second, .val (.int (0 : Int32)), .val (.int (1 : Int32))] [(.int ((degF ee kk) 0)), (.int (0 : Int32)), (.ref b3), (.int ((degF ee kk) 0)), (.ref b12)])) (fun t k => ?_) ?_
                · jvm_step X31.here [X31.here.top, hx, (hb hby d4_137), Value.category]
                  exact k
                show Go p e below _ (T31.setTop (mkF m 138 _ [(.int ((degF ee kk) 0)), (.int (0 : Int32)), (.ref b3), (.int ((degF ee kk) 0)), (.ref b12)]))
                refine gC (q := 139) (v := 1) X31 hx (hb hby d4_138) rfl rfl ?_
                refine Go.step (fun t k => XS.iadd X31.here hx rfl (hb hby d4_139) rfl k) ?_
                show Go p e below _ (T31.setTop (mkF m 140 _ [(.int (((degF ee kk) 0) + (1 : Int32))), (.int (0 : Int32)), (.ref b3), (.int ((degF ee kk) 0)), (.ref b12)]))
                obtain ⟨cl32, Ar32, in32, -⟩ := A_b3_l27.hin (j := (0 : Int32)) (by decide) (by decide)
                obtain ⟨T32, h32, X32, e32, W32, st32⟩ := stI X31 hx hZ e31 Ar32 in32 (g := (mkF m 140 #[.val (.int (5 : Int32)), .val (.ref a2), .val (.ref b3), .val (.ref b11), .val (.ref a2), .val (.int ee.length.toInt32), .val (.int (Int32.ofNat kk)), .val (.long (enc (0, 1))), .second, .val (.int (0 : Int32)), .val (.int (1 : Int32))] [(.int (((degF ee kk) 0) + (1 : Int32))), (.int (0 : Int32)), (.ref b3), (.int ((degF ee kk) 0)), (.ref b12)])) rfl rfl (hb hby d4_140)
                refine Go.step st32 ?_
                have N32 := Fr.snoc X32 N31 g_b3
                have A_a2_32 := A_a2_l27.other W32 ne_a2_b3
                have A_b12_32 := A_b12_l27.other W32 (Ne.symm ne_b3_b12)
                have A_b15_32 := A_b15_l27.other W32 (Ne.symm ne_b3_b15)
                have A_b18_32 := A_b18_l27.other W32 (Ne.symm ne_b3_b18)
                have A_b21_32 := A_b21_l27.other W32 (Ne.symm ne_b3_b21)
                have A_b24_32 := A_b24_l27.other W32 (Ne.symm ne_b3_b24)
                have A_b11_32 := A_b11_l27.other W32 (Ne.symm ne_b3_b11)
                have Z32 := Nat.le_trans Zl27 (Keep.of_wr W32).1
                have KK32 : Keep h0 h32 [] := KKl27.wr W32 (Or.inr sz_b3)
                have A_b3_32 : Ary Z h32 b3 .int 5 (fun i => .int ((upA (degF ee kk) 0 (((degF ee kk) 0) + (1 : Int32))) i)) := A_b3_l27.setI W32 (by decide)
                show Go p e below _ (T32.setTop (mkF m 141 _ [(.int ((degF ee kk) 0)), (.ref b12)]))
                refine gJ (q := 143) X32 hx (hb hby d4_141) rfl rfl ?_
                obtain ⟨cl33, Ar33, in33, -⟩ := A_b12_32.hin (j := ((degF ee kk) 0)) (degB hTen (ltA hkl hq)).1 (degB hTen (ltA hkl hq)).2
                obtain ⟨T33, h33, X33, e33, W33, st33⟩ := stI X32 hx hZ e32 Ar33 in33 (g := (mkF m 143 #[.val (.int (5 : Int32)), .val (.ref a2), .val (.ref b3), .val (.ref b11), .val (.ref a2), .val (.int ee.length.toInt32), .val (.int (Int32.ofNat kk)), .val (.long (enc (0, 1))), .second, .val (.int (0 : Int32)), .val (.int (1 : Int32))] [(.int (1 : Int32)), (.int ((degF ee kk) 0)), (.ref b12)])) rfl rfl (hb hby d4_143)
                refine Go.step st33 ?_
                have N33 := Fr.snoc X33 N32 g_b12
                have A_a2_33 := A_a2_32.other W33 ne_a2_b12
                have A_b15_33 := A_b15_32.other W33 (Ne.symm ne_b12_b15)
                have A_b18_33 := A_b18_32.other W33 (Ne.symm ne_b12_b18)
                have A_b21_33 := A_b21_32.other W33 (Ne.symm ne_b12_b21)
                have A_b24_33 := A_b24_32.other W33 (Ne.symm ne_b12_b24)
                have A_b11_33 := A_b11_32.other W33 ne_b11_b12
                have A_b3_33 := A_b3_32.other W33 ne_b3_b12
                have Z33 := Nat.le_trans Z32 (Keep.of_wr W33).1
                have KK33 : Keep h0 h33 [] := KK32.wr W33 (Or.inr sz_b12)
                have A_b12_33 : Ary Z h33 b12 .int (nb ee 0).length (fun i => .int ((upA (rowF (nb (ee.take kk) 0)) ((degF ee kk) 0).toNatClampNeg (1 : Int32)) i)) := A_b12_32.setI W33 (degB hTen (ltA hkl hq)).2
                show Go p e below _ (T33.setTop (mkF m 144 _ []))
                refine gA (q := 145) X33 hx (hb hby d4_144) rfl rfl rfl ?_
                refine gJ (q := 147) X33 hx (hb hby d4_145) rfl rfl ?_
                refine Go.step (ldR X33 hx hZ e33 A_b11_33.ary rfl (j := (1 : Int32)) (by decide) (by decide) (g := (mkF m 147 _ [(.int (1 : Int32)), (.ref b11)])) rfl rfl (hb hby d4_147)) ?_
                show Go p e below _ (T33.setTop (mkF m 148 _ [(.ref b15)]))
                refine gA (q := 149) X33 hx (hb hby d4_148) rfl rfl rfl ?_
                refine gJ (q := 151) X33 hx (hb hby d4_149) rfl rfl ?_
                refine Go.step (S' := T33.setTop (mkF m 152 #[.val (.int (5 : Int32)), .val (.ref a2), .val (.ref b3), .val (.ref b11), .val (.ref a2), .val (.int ee.length.toInt32), .val (.int (Int32.ofNat kk)), .val (.long (enc (0, 1))), .second, .val (.int (0 : Int32)), .val (.int (1 : Int32))] [(.int (1 : Int32)), (.ref b3), (.int (1 : Int32)), (.ref b3), (.ref b15)])) (fun t k => ?_) ?_
                · jvm_step X33.here [X33.here.top, hx, (hb hby d4_151), Value.category]
                  exact k
                show Go p e below _ (T33.setTop (mkF m 152 _ [(.int (1 : Int32)), (.ref b3), (.int (1 : Int32)), (.ref b3), (.ref b15)]))
                refine Go.step (ldI X33 hx hZ e33 A_b3_33 (j := (1 : Int32)) (by decide) (by decide) (g := (mkF m 152 _ [(.int (1 : Int32)), (.ref b3), (.int (1 : Int32)), (.ref b3), (.ref b15)])) rfl rfl (hb hby d4_152)) ?_
                show Go p e below _ (T33.setTop (mkF m 153 _ [(.int ((degF ee kk) 1)), (.int (1 : Int32)), (.ref b3), (.ref b15)]))
                refine Go.step (S' := T33.setTop (mkF m 154 #[.val (.int (5 : Int32)), .val (.ref a2), .val (.ref b3), .val (.ref b11), .val (.ref a2), .val (.int ee.length.toInt32), .val (.int (Int32.ofNat kk)), .val (.long (enc (0, 1))), .second, .val (.int (0 : Int32)), .val (.int (1 : Int32))] [(.int ((degF ee kk) 1)), (.int (1 : Int32)), (.ref b3), (.int ((degF ee kk) 1)), (.ref b15)])) (fun t k => ?_) ?_
                · jvm_step X33.here [X33.here.top, hx, (hb hby d4_153), Value.category]
                  exact k
                show Go p e below _ (T33.setTop (mkF m 154 _ [(.int ((degF ee kk) 1)), (.int (1 : Int32)), (.ref b3), (.int ((degF ee kk) 1)), (.ref b15)]))
                refine gC (q := 155) (v := 1) X33 hx (hb hby d4_154) rfl rfl ?_
                refine Go.step (fun t k => XS.iadd X33.here hx rfl (hb hby d4_155) rfl k) ?_
                show Go p e below _ (T33.setTop (mkF m 156 _ [(.int (((degF ee kk) 1) + (1 : Int32))), (.int (1 : Int32)), (.ref b3), (.int ((degF ee kk) 1)), (.ref b15)]))
                obtain ⟨cl34, Ar34, in34, -⟩ := A_b3_33.hin (j := (1 : Int32)) (by decide) (by decide)
                obtain ⟨T34, h34, X34, e34, W34, st34⟩ := stI X33 hx hZ e33 Ar34 in34 (g := (mkF m 156 #[.val (.int (5 : Int32)), .val (.ref a2), .val (.ref b3), .val (.ref b11), .val (.ref a2), .val (.int ee.length.toInt32), .val (.int (Int32.ofNat kk)), .val (.long (enc (0, 1))), .second, .val (.int (0 : Int32)), .val (.int (1 : Int32))] [(.int (((degF ee kk) 1) + (1 : Int32))), (.int (1 : Int32)), (.ref b3), (.int ((degF ee kk) 1)), (.ref b15)])) rfl rfl (hb hby d4_156)
                refine Go.step st34 ?_
                have N34 := Fr.snoc X34 N33 g_b3
                have A_a2_34 := A_a2_33.other W34 ne_a2_b3
                have A_b15_34 := A_b15_33.other W34 (Ne.symm ne_b3_b15)
                have A_b18_34 := A_b18_33.other W34 (Ne.symm ne_b3_b18)
                have A_b21_34 := A_b21_33.other W34 (Ne.symm ne_b3_b21)
                have A_b24_34 := A_b24_33.other W34 (Ne.symm ne_b3_b24)
                have A_b11_34 := A_b11_33.other W34 (Ne.symm ne_b3_b11)
                have A_b12_34 := A_b12_33.other W34 (Ne.symm ne_b3_b12)
                have Z34 := Nat.le_trans Z33 (Keep.of_wr W34).1
                have KK34 : Keep h0 h34 [] := KK33.wr W34 (Or.inr sz_b3)
                have A_b3_34 : Ary Z h34 b3 .int 5 (fun i => .int ((upA (upA (degF ee kk) 0 (((degF ee kk) 0) + (1 : Int32))) 1 (((degF ee kk) 1) + (1 : Int32))) i)) := A_b3_33.setI W34 (by decide)
                show Go p e below _ (T34.setTop (mkF m 157 _ [(.int ((degF ee kk) 1)), (.ref b15)]))
                refine gJ (q := 159) X34 hx (hb hby d4_157) rfl rfl ?_
                obtain ⟨cl35, Ar35, in35, -⟩ := A_b15_34.hin (j := ((degF ee kk) 1)) (degB hTen (ltB hkl hq (by decide))).1 (degB hTen (ltB hkl hq (by decide))).2
                obtain ⟨T35, h35, X35, e35, W35, st35⟩ := stI X34 hx hZ e34 Ar35 in35 (g := (mkF m 159 #[.val (.int (5 : Int32)), .val (.ref a2), .val (.ref b3), .val (.ref b11), .val (.ref a2), .val (.int ee.length.toInt32), .val (.int (Int32.ofNat kk)), .val (.long (enc (0, 1))), .second, .val (.int (0 : Int32)), .val (.int (1 : Int32))] [(.int (0 : Int32)), (.int ((degF ee kk) 1)), (.ref b15)])) rfl rfl (hb hby d4_159)
                refine Go.step st35 ?_
                have N35 := Fr.snoc X35 N34 g_b15
                have A_a2_35 := A_a2_34.other W35 ne_a2_b15
                have A_b18_35 := A_b18_34.other W35 (Ne.symm ne_b15_b18)
                have A_b21_35 := A_b21_34.other W35 (Ne.symm ne_b15_b21)
                have A_b24_35 := A_b24_34.other W35 (Ne.symm ne_b15_b24)
                have A_b11_35 := A_b11_34.other W35 ne_b11_b15
                have A_b12_35 := A_b12_34.other W35 ne_b12_b15
                have A_b3_35 := A_b3_34.other W35 ne_b3_b15
                have Z35 := Nat.le_trans Z34 (Keep.of_wr W35).1
                have KK35 : Keep h0 h35 [] := KK34.wr W35 (Or.inr sz_b15)
                have A_b15_35 : Ary Z h35 b15 .int (nb ee 1).length (fun i => .int ((upA (rowF (nb (ee.take kk) 1)) ((degF ee kk) 1).toNatClampNeg (0 : Int32)) i)) := A_b15_34.setI W35 (degB hTen (ltB hkl hq (by decide))).2
                show Go p e below _ (T35.setTop (mkF m 160 _ []))
                refine Go.step (fun t k => XS.iinc X35.here hx rfl (hb hby d4_160) rfl (l' := #[.val (.int (5 : Int32)), .val (.ref a2), .val (.ref b3), .val (.ref b11), .val (.ref a2), .val (.int ee.length.toInt32), .val (.int ((Int32.ofNat kk) + (1 : Int32))), .val (.long (enc (0, 1))), .second, .val (.int (0 : Int32)), .val (.int (1 : Int32))]) rfl k) ?_
                show Go p e below _ (T35.setTop (mkF m 163 _ []))
                refine Go.step (fun t k => XS.goto X35.here hx rfl (pc0 := 163) (pc' := 100) rfl (hb hby d4_163) (by decide) (by decide) k) ?_
                show Go p e below _ (T35.setTop (mkF m 100 _ []))
                show Go p e below _ (T35.setTop (mkF m 100 _ []))
                rw [succ32]
                exact ih _ (by omega) (kk + 1) _ (One.val rfl) _ (One.val rfl) _ _ Two.v _ _ _ rfl (by omega) X35 N35 e35 KK35 Z35 A_a2_35 (A_b12_35.congr fun q _ => congrArg Value.int (rowA hTen hkl hq (by decide) q)) (A_b15_35.congr fun q _ => congrArg Value.int (rowB hTen hkl hq (by decide) (by decide) q)) (A_b18_35.congr fun q _ => congrArg Value.int (by rw [nbC hkl hq (by decide) (by decide)])) (A_b21_35.congr fun q _ => congrArg Value.int (by rw [nbC hkl hq (by decide) (by decide)])) (A_b24_35.congr fun q _ => congrArg Value.int (by rw [nbC hkl hq (by decide) (by decide)])) A_b11_35 (A_b3_35.congr fun i _ => congrArg Value.int (degS hkl hq (by decide) i))
              · skip
                show Go p e below _ (T31.setTop (mkF m 128 #[.val (.int (5 : Int32)), .val (.ref a2), .val (.ref b3), .val (.ref b11), .val (.ref a2), .val (.int ee.length.toInt32), .val (.int (Int32.ofNat kk)), .val (.long (enc (0, 2))), .second, .val (.int (0 : Int32)), .val (.int (2 : Int32))] []))
                refine gA (q := 129) X31 hx (hb hby d4_128) rfl rfl rfl ?_
                refine gJ (q := 131) X31 hx (hb hby d4_129) rfl rfl ?_
                refine Go.step (ldR X31 hx hZ e31 A_b11_l27.ary rfl (j := (0 : Int32)) (by decide) (by decide) (g := (mkF m 131 _ [(.int (0 : Int32)), (.ref b11)])) rfl rfl (hb hby d4_131)) ?_
                show Go p e below _ (T31.setTop (mkF m 132 _ [(.ref b12)]))
                refine gA (q := 133) X31 hx (hb hby d4_132) rfl rfl rfl ?_
                refine gJ (q := 135) X31 hx (hb hby d4_133) rfl rfl ?_
                refine Go.step (S' := T31.setTop (mkF m 136 #[.val (.int (5 : Int32)), .val (.ref a2), .val (.ref b3), .val (.ref b11), .val (.ref a2), .val (.int ee.length.toInt32), .val (.int (Int32.ofNat kk)), .val (.long (enc (0, 2))), .second, .val (.int (0 : Int32)), .val (.int (2 : Int32))] [(.int (0 : Int32)), (.ref b3), (.int (0 : Int32)), (.ref b3), (.ref b12)])) (fun t k => ?_) ?_
                · jvm_step X31.here [X31.here.top, hx, (hb hby d4_135), Value.category]
                  exact k
                show Go p e below _ (T31.setTop (mkF m 136 _ [(.int (0 : Int32)), (.ref b3), (.int (0 : Int32)), (.ref b3), (.ref b12)]))
                refine Go.step (ldI X31 hx hZ e31 A_b3_l27 (j := (0 : Int32)) (by decide) (by decide) (g := (mkF m 136 _ [(.int (0 : Int32)), (.ref b3), (.int (0 : Int32)), (.ref b3), (.ref b12)])) rfl rfl (hb hby d4_136)) ?_
                show Go p e below _ (T31.setTop (mkF m 137 _ [(.int ((degF ee kk) 0)), (.int (0 : Int32)), (.ref b3), (.ref b12)]))
                refine Go.step (S' := T31.setTop (mkF m 138 #[.val (.int (5 : Int32)), .val (.ref a2), .val (.ref b3), .val (.ref b11), .val (.ref a2), .val (.int ee.length.toInt32), .val (.int (Int32.ofNat kk)), .val (.long (enc (0, 2))), .second, .val (.int (0 : Int32)), .val (.int (2 : Int32))] [(.int ((degF ee kk) 0)), (.int (0 : Int32)), (.ref b3), (.int ((degF ee kk) 0)), (.ref b12)])) (fun t k => ?_) ?_
                · jvm_step X31.here [X31.here.top, hx, (hb hby d4_137), Value.category]
                  exact k
                show Go p e below _ (T31.setTop (mkF m 138 _ [(.int ((degF ee kk) 0)), (.int (0 : Int32)), (.ref b3), (.int ((degF ee kk) 0)), (.ref b12)]))
                refine gC (q := 139) (v := 1) X31 hx (hb hby d4_138) rfl rfl ?_
                refine Go.step (fun t k => XS.iadd X31.here hx rfl (hb hby d4_139) rfl k) ?_
                show Go p e below _ (T31.setTop (mkF m 140 _ [(.int (((degF ee kk) 0) + (1 : Int32))), (.int (0 : Int32)), (.ref b3), (.int ((degF ee kk) 0)), (.ref b12)]))
                obtain ⟨cl36, Ar36, in36, -⟩ := A_b3_l27.hin (j := (0 : Int32)) (by decide) (by decide)
                obtain ⟨T36, h36, X36, e36, W36, st36⟩ := stI X31 hx hZ e31 Ar36 in36 (g := (mkF m 140 #[.val (.int (5 : Int32)), .val (.ref a2), .val (.ref b3), .val (.ref b11), .val (.ref a2), .val (.int ee.length.toInt32), .val (.int (Int32.ofNat kk)), .val (.long (enc (0, 2))), .second, .val (.int (0 : Int32)), .val (.int (2 : Int32))] [(.int (((degF ee kk) 0) + (1 : Int32))), (.int (0 : Int32)), (.ref b3), (.int ((degF ee kk) 0)), (.ref b12)])) rfl rfl (hb hby d4_140)
                refine Go.step st36 ?_
                have N36 := Fr.snoc X36 N31 g_b3
                have A_a2_36 := A_a2_l27.other W36 ne_a2_b3
                have A_b12_36 := A_b12_l27.other W36 (Ne.symm ne_b3_b12)
                have A_b15_36 := A_b15_l27.other W36 (Ne.symm ne_b3_b15)
                have A_b18_36 := A_b18_l27.other W36 (Ne.symm ne_b3_b18)
                have A_b21_36 := A_b21_l27.other W36 (Ne.symm ne_b3_b21)
                have A_b24_36 := A_b24_l27.other W36 (Ne.symm ne_b3_b24)
                have A_b11_36 := A_b11_l27.other W36 (Ne.symm ne_b3_b11)
                have Z36 := Nat.le_trans Zl27 (Keep.of_wr W36).1
                have KK36 : Keep h0 h36 [] := KKl27.wr W36 (Or.inr sz_b3)
                have A_b3_36 : Ary Z h36 b3 .int 5 (fun i => .int ((upA (degF ee kk) 0 (((degF ee kk) 0) + (1 : Int32))) i)) := A_b3_l27.setI W36 (by decide)
                show Go p e below _ (T36.setTop (mkF m 141 _ [(.int ((degF ee kk) 0)), (.ref b12)]))
                refine gJ (q := 143) X36 hx (hb hby d4_141) rfl rfl ?_
                obtain ⟨cl37, Ar37, in37, -⟩ := A_b12_36.hin (j := ((degF ee kk) 0)) (degB hTen (ltA hkl hq)).1 (degB hTen (ltA hkl hq)).2
                obtain ⟨T37, h37, X37, e37, W37, st37⟩ := stI X36 hx hZ e36 Ar37 in37 (g := (mkF m 143 #[.val (.int (5 : Int32)), .val (.ref a2), .val (.ref b3), .val (.ref b11), .val (.ref a2), .val (.int ee.length.toInt32), .val (.int (Int32.ofNat kk)), .val (.long (enc (0, 2))), .second, .val (.int (0 : Int32)), .val (.int (2 : Int32))] [(.int (2 : Int32)), (.int ((degF ee kk) 0)), (.ref b12)])) rfl rfl (hb hby d4_143)
                refine Go.step st37 ?_
                have N37 := Fr.snoc X37 N36 g_b12
                have A_a2_37 := A_a2_36.other W37 ne_a2_b12
                have A_b15_37 := A_b15_36.other W37 (Ne.symm ne_b12_b15)
                have A_b18_37 := A_b18_36.other W37 (Ne.symm ne_b12_b18)
                have A_b21_37 := A_b21_36.other W37 (Ne.symm ne_b12_b21)
                have A_b24_37 := A_b24_36.other W37 (Ne.symm ne_b12_b24)
                have A_b11_37 := A_b11_36.other W37 ne_b11_b12
                have A_b3_37 := A_b3_36.other W37 ne_b3_b12
                have Z37 := Nat.le_trans Z36 (Keep.of_wr W37).1
                have KK37 : Keep h0 h37 [] := KK36.wr W37 (Or.inr sz_b12)
                have A_b12_37 : Ary Z h37 b12 .int (nb ee 0).length (fun i => .int ((upA (rowF (nb (ee.take kk) 0)) ((degF ee kk) 0).toNatClampNeg (2 : Int32)) i)) := A_b12_36.setI W37 (degB hTen (ltA hkl hq)).2
                show Go p e below _ (T37.setTop (mkF m 144 _ []))
                refine gA (q := 145) X37 hx (hb hby d4_144) rfl rfl rfl ?_
                refine gJ (q := 147) X37 hx (hb hby d4_145) rfl rfl ?_
                refine Go.step (ldR X37 hx hZ e37 A_b11_37.ary rfl (j := (2 : Int32)) (by decide) (by decide) (g := (mkF m 147 _ [(.int (2 : Int32)), (.ref b11)])) rfl rfl (hb hby d4_147)) ?_
                show Go p e below _ (T37.setTop (mkF m 148 _ [(.ref b18)]))
                refine gA (q := 149) X37 hx (hb hby d4_148) rfl rfl rfl ?_
                refine gJ (q := 151) X37 hx (hb hby d4_149) rfl rfl ?_
                refine Go.step (S' := T37.setTop (mkF m 152 #[.val (.int (5 : Int32)), .val (.ref a2), .val (.ref b3), .val (.ref b11), .val (.ref a2), .val (.int ee.length.toInt32), .val (.int (Int32.ofNat kk)), .val (.long (enc (0, 2))), .second, .val (.int (0 : Int32)), .val (.int (2 : Int32))] [(.int (2 : Int32)), (.ref b3), (.int (2 : Int32)), (.ref b3), (.ref b18)])) (fun t k => ?_) ?_
                · jvm_step X37.here [X37.here.top, hx, (hb hby d4_151), Value.category]
                  exact k
                show Go p e below _ (T37.setTop (mkF m 152 _ [(.int (2 : Int32)), (.ref b3), (.int (2 : Int32)), (.ref b3), (.ref b18)]))
                refine Go.step (ldI X37 hx hZ e37 A_b3_37 (j := (2 : Int32)) (by decide) (by decide) (g := (mkF m 152 _ [(.int (2 : Int32)), (.ref b3), (.int (2 : Int32)), (.ref b3), (.ref b18)])) rfl rfl (hb hby d4_152)) ?_
                show Go p e below _ (T37.setTop (mkF m 153 _ [(.int ((degF ee kk) 2)), (.int (2 : Int32)), (.ref b3), (.ref b18)]))
                refine Go.step (S' := T37.setTop (mkF m 154 #[.val (.int (5 : Int32)), .val (.ref a2), .val (.ref b3), .val (.ref b11), .val (.ref a2), .val (.int ee.length.toInt32), .val (.int (Int32.ofNat kk)), .val (.long (enc (0, 2))), .second, .val (.int (0 : Int32)), .val (.int (2 : Int32))] [(.int ((degF ee kk) 2)), (.int (2 : Int32)), (.ref b3), (.int ((degF ee kk) 2)), (.ref b18)])) (fun t k => ?_) ?_
                · jvm_step X37.here [X37.here.top, hx, (hb hby d4_153), Value.category]
                  exact k
                show Go p e below _ (T37.setTop (mkF m 154 _ [(.int ((degF ee kk) 2)), (.int (2 : Int32)), (.ref b3), (.int ((degF ee kk) 2)), (.ref b18)]))
                refine gC (q := 155) (v := 1) X37 hx (hb hby d4_154) rfl rfl ?_
                refine Go.step (fun t k => XS.iadd X37.here hx rfl (hb hby d4_155) rfl k) ?_
                show Go p e below _ (T37.setTop (mkF m 156 _ [(.int (((degF ee kk) 2) + (1 : Int32))), (.int (2 : Int32)), (.ref b3), (.int ((degF ee kk) 2)), (.ref b18)]))
                obtain ⟨cl38, Ar38, in38, -⟩ := A_b3_37.hin (j := (2 : Int32)) (by decide) (by decide)
                obtain ⟨T38, h38, X38, e38, W38, st38⟩ := stI X37 hx hZ e37 Ar38 in38 (g := (mkF m 156 #[.val (.int (5 : Int32)), .val (.ref a2), .val (.ref b3), .val (.ref b11), .val (.ref a2), .val (.int ee.length.toInt32), .val (.int (Int32.ofNat kk)), .val (.long (enc (0, 2))), .second, .val (.int (0 : Int32)), .val (.int (2 : Int32))] [(.int (((degF ee kk) 2) + (1 : Int32))), (.int (2 : Int32)), (.ref b3), (.int ((degF ee kk) 2)), (.ref b18)])) rfl rfl (hb hby d4_156)
                refine Go.step st38 ?_
                have N38 := Fr.snoc X38 N37 g_b3
                have A_a2_38 := A_a2_37.other W38 ne_a2_b3
                have A_b15_38 := A_b15_37.other W38 (Ne.symm ne_b3_b15)
                have A_b18_38 := A_b18_37.other W38 (Ne.symm ne_b3_b18)
                have A_b21_38 := A_b21_37.other W38 (Ne.symm ne_b3_b21)
                have A_b24_38 := A_b24_37.other W38 (Ne.symm ne_b3_b24)
                have A_b11_38 := A_b11_37.other W38 (Ne.symm ne_b3_b11)
                have A_b12_38 := A_b12_37.other W38 (Ne.symm ne_b3_b12)
                have Z38 := Nat.le_trans Z37 (Keep.of_wr W38).1
                have KK38 : Keep h0 h38 [] := KK37.wr W38 (Or.inr sz_b3)
                have A_b3_38 : Ary Z h38 b3 .int 5 (fun i => .int ((upA (upA (degF ee kk) 0 (((degF ee kk) 0) + (1 : Int32))) 2 (((degF ee kk) 2) + (1 : Int32))) i)) := A_b3_37.setI W38 (by decide)
                show Go p e below _ (T38.setTop (mkF m 157 _ [(.int ((degF ee kk) 2)), (.ref b18)]))
                refine gJ (q := 159) X38 hx (hb hby d4_157) rfl rfl ?_
                obtain ⟨cl39, Ar39, in39, -⟩ := A_b18_38.hin (j := ((degF ee kk) 2)) (degB hTen (ltB hkl hq (by decide))).1 (degB hTen (ltB hkl hq (by decide))).2
                obtain ⟨T39, h39, X39, e39, W39, st39⟩ := stI X38 hx hZ e38 Ar39 in39 (g := (mkF m 159 #[.val (.int (5 : Int32)), .val (.ref a2), .val (.ref b3), .val (.ref b11), .val (.ref a2), .val (.int ee.length.toInt32), .val (.int (Int32.ofNat kk)), .val (.long (enc (0, 2))), .second, .val (.int (0 : Int32)), .val (.int (2 : Int32))] [(.int (0 : Int32)), (.int ((degF ee kk) 2)), (.ref b18)])) rfl rfl (hb hby d4_159)
                refine Go.step st39 ?_
                have N39 := Fr.snoc X39 N38 g_b18
                have A_a2_39 := A_a2_38.other W39 ne_a2_b18
                have A_b15_39 := A_b15_38.other W39 ne_b15_b18
                have A_b21_39 := A_b21_38.other W39 (Ne.symm ne_b18_b21)
                have A_b24_39 := A_b24_38.other W39 (Ne.symm ne_b18_b24)
                have A_b11_39 := A_b11_38.other W39 ne_b11_b18
                have A_b12_39 := A_b12_38.other W39 ne_b12_b18
                have A_b3_39 := A_b3_38.other W39 ne_b3_b18
                have Z39 := Nat.le_trans Z38 (Keep.of_wr W39).1
                have KK39 : Keep h0 h39 [] := KK38.wr W39 (Or.inr sz_b18)
                have A_b18_39 : Ary Z h39 b18 .int (nb ee 2).length (fun i => .int ((upA (rowF (nb (ee.take kk) 2)) ((degF ee kk) 2).toNatClampNeg (0 : Int32)) i)) := A_b18_38.setI W39 (degB hTen (ltB hkl hq (by decide))).2
                show Go p e below _ (T39.setTop (mkF m 160 _ []))
                refine Go.step (fun t k => XS.iinc X39.here hx rfl (hb hby d4_160) rfl (l' := #[.val (.int (5 : Int32)), .val (.ref a2), .val (.ref b3), .val (.ref b11), .val (.ref a2), .val (.int ee.length.toInt32), .val (.int ((Int32.ofNat kk) + (1 : Int32))), .val (.long (enc (0, 2))), .second, .val (.int (0 : Int32)), .val (.int (2 : Int32))]) rfl k) ?_
                show Go p e below _ (T39.setTop (mkF m 163 _ []))
                refine Go.step (fun t k => XS.goto X39.here hx rfl (pc0 := 163) (pc' := 100) rfl (hb hby d4_163) (by decide) (by decide) k) ?_
                show Go p e below _ (T39.setTop (mkF m 100 _ []))
                show Go p e below _ (T39.setTop (mkF m 100 _ []))
                rw [succ32]
                exact ih _ (by omega) (kk + 1) _ (One.val rfl) _ (One.val rfl) _ _ Two.v _ _ _ rfl (by omega) X39 N39 e39 KK39 Z39 A_a2_39 (A_b12_39.congr fun q _ => congrArg Value.int (rowA hTen hkl hq (by decide) q)) (A_b15_39.congr fun q _ => congrArg Value.int (by rw [nbC hkl hq (by decide) (by decide)])) (A_b18_39.congr fun q _ => congrArg Value.int (rowB hTen hkl hq (by decide) (by decide) q)) (A_b21_39.congr fun q _ => congrArg Value.int (by rw [nbC hkl hq (by decide) (by decide)])) (A_b24_39.congr fun q _ => congrArg Value.int (by rw [nbC hkl hq (by decide) (by decide)])) A_b11_39 (A_b3_39.congr fun i _ => congrArg Value.int (degS hkl hq (by decide) i))
              · skip
                show Go p e below _ (T31.setTop (mkF m 128 #[.val (.int (5 : Int32)), .val (.ref a2), .val (.ref b3), .val (.ref b11), .val (.ref a2), .val (.int ee.length.toInt32), .val (.int (Int32.ofNat kk)), .val (.long (enc (0, 3))), .second, .val (.int (0 : Int32)), .val (.int (3 : Int32))] []))
                refine gA (q := 129) X31 hx (hb hby d4_128) rfl rfl rfl ?_
                refine gJ (q := 131) X31 hx (hb hby d4_129) rfl rfl ?_
                refine Go.step (ldR X31 hx hZ e31 A_b11_l27.ary rfl (j := (0 : Int32)) (by decide) (by decide) (g := (mkF m 131 _ [(.int (0 : Int32)), (.ref b11)])) rfl rfl (hb hby d4_131)) ?_
                show Go p e below _ (T31.setTop (mkF m 132 _ [(.ref b12)]))
                refine gA (q := 133) X31 hx (hb hby d4_132) rfl rfl rfl ?_
                refine gJ (q := 135) X31 hx (hb hby d4_133) rfl rfl ?_
                refine Go.step (S' := T31.setTop (mkF m 136 #[.val (.int (5 : Int32)), .val (.ref a2), .val (.ref b3), .val (.ref b11), .val (.ref a2), .val (.int ee.length.toInt32), .val (.int (Int32.ofNat kk)), .val (.long (enc (0, 3))), .second, .val (.int (0 : Int32)), .val (.int (3 : Int32))] [(.int (0 : Int32)), (.ref b3), (.int (0 : Int32)), (.ref b3), (.ref b12)])) (fun t k => ?_) ?_
                · jvm_step X31.here [X31.here.top, hx, (hb hby d4_135), Value.category]
                  exact k
                show Go p e below _ (T31.setTop (mkF m 136 _ [(.int (0 : Int32)), (.ref b3), (.int (0 : Int32)), (.ref b3), (.ref b12)]))
                refine Go.step (ldI X31 hx hZ e31 A_b3_l27 (j := (0 : Int32)) (by decide) (by decide) (g := (mkF m 136 _ [(.int (0 : Int32)), (.ref b3), (.int (0 : Int32)), (.ref b3), (.ref b12)])) rfl rfl (hb hby d4_136)) ?_
                show Go p e below _ (T31.setTop (mkF m 137 _ [(.int ((degF ee kk) 0)), (.int (0 : Int32)), (.ref b3), (.ref b12)]))
                refine Go.step (S' := T31.setTop (mkF m 138 #[.val (.int (5 : Int32)), .val (.ref a2), .val (.ref b3), .val (.ref b11), .val (.ref a2), .val (.int ee.length.toInt32), .val (.int (Int32.ofNat kk)), .val (.long (enc (0, 3))), .second, .val (.int (0 : Int32)), .val (.int (3 : Int32))] [(.int ((degF ee kk) 0)), (.int (0 : Int32)), (.ref b3), (.int ((degF ee kk) 0)), (.ref b12)])) (fun t k => ?_) ?_
                · jvm_step X31.here [X31.here.top, hx, (hb hby d4_137), Value.category]
                  exact k
                show Go p e below _ (T31.setTop (mkF m 138 _ [(.int ((degF ee kk) 0)), (.int (0 : Int32)), (.ref b3), (.int ((degF ee kk) 0)), (.ref b12)]))
                refine gC (q := 139) (v := 1) X31 hx (hb hby d4_138) rfl rfl ?_
                refine Go.step (fun t k => XS.iadd X31.here hx rfl (hb hby d4_139) rfl k) ?_
                show Go p e below _ (T31.setTop (mkF m 140 _ [(.int (((degF ee kk) 0) + (1 : Int32))), (.int (0 : Int32)), (.ref b3), (.int ((degF ee kk) 0)), (.ref b12)]))
                obtain ⟨cl40, Ar40, in40, -⟩ := A_b3_l27.hin (j := (0 : Int32)) (by decide) (by decide)
                obtain ⟨T40, h40, X40, e40, W40, st40⟩ := stI X31 hx hZ e31 Ar40 in40 (g := (mkF m 140 #[.val (.int (5 : Int32)), .val (.ref a2), .val (.ref b3), .val (.ref b11), .val (.ref a2), .val (.int ee.length.toInt32), .val (.int (Int32.ofNat kk)), .val (.long (enc (0, 3))), .second, .val (.int (0 : Int32)), .val (.int (3 : Int32))] [(.int (((degF ee kk) 0) + (1 : Int32))), (.int (0 : Int32)), (.ref b3), (.int ((degF ee kk) 0)), (.ref b12)])) rfl rfl (hb hby d4_140)
                refine Go.step st40 ?_
                have N40 := Fr.snoc X40 N31 g_b3
                have A_a2_40 := A_a2_l27.other W40 ne_a2_b3
                have A_b12_40 := A_b12_l27.other W40 (Ne.symm ne_b3_b12)
                have A_b15_40 := A_b15_l27.other W40 (Ne.symm ne_b3_b15)
                have A_b18_40 := A_b18_l27.other W40 (Ne.symm ne_b3_b18)
                have A_b21_40 := A_b21_l27.other W40 (Ne.symm ne_b3_b21)
                have A_b24_40 := A_b24_l27.other W40 (Ne.symm ne_b3_b24)
                have A_b11_40 := A_b11_l27.other W40 (Ne.symm ne_b3_b11)
                have Z40 := Nat.le_trans Zl27 (Keep.of_wr W40).1
                have KK40 : Keep h0 h40 [] := KKl27.wr W40 (Or.inr sz_b3)
                have A_b3_40 : Ary Z h40 b3 .int 5 (fun i => .int ((upA (degF ee kk) 0 (((degF ee kk) 0) + (1 : Int32))) i)) := A_b3_l27.setI W40 (by decide)
                show Go p e below _ (T40.setTop (mkF m 141 _ [(.int ((degF ee kk) 0)), (.ref b12)]))
                refine gJ (q := 143) X40 hx (hb hby d4_141) rfl rfl ?_
                obtain ⟨cl41, Ar41, in41, -⟩ := A_b12_40.hin (j := ((degF ee kk) 0)) (degB hTen (ltA hkl hq)).1 (degB hTen (ltA hkl hq)).2
                obtain ⟨T41, h41, X41, e41, W41, st41⟩ := stI X40 hx hZ e40 Ar41 in41 (g := (mkF m 143 #[.val (.int (5 : Int32)), .val (.ref a2), .val (.ref b3), .val (.ref b11), .val (.ref a2), .val (.int ee.length.toInt32), .val (.int (Int32.ofNat kk)), .val (.long (enc (0, 3))), .second, .val (.int (0 : Int32)), .val (.int (3 : Int32))] [(.int (3 : Int32)), (.int ((degF ee kk) 0)), (.ref b12)])) rfl rfl (hb hby d4_143)
                refine Go.step st41 ?_
                have N41 := Fr.snoc X41 N40 g_b12
                have A_a2_41 := A_a2_40.other W41 ne_a2_b12
                have A_b15_41 := A_b15_40.other W41 (Ne.symm ne_b12_b15)
                have A_b18_41 := A_b18_40.other W41 (Ne.symm ne_b12_b18)
                have A_b21_41 := A_b21_40.other W41 (Ne.symm ne_b12_b21)
                have A_b24_41 := A_b24_40.other W41 (Ne.symm ne_b12_b24)
                have A_b11_41 := A_b11_40.other W41 ne_b11_b12
                have A_b3_41 := A_b3_40.other W41 ne_b3_b12
                have Z41 := Nat.le_trans Z40 (Keep.of_wr W41).1
                have KK41 : Keep h0 h41 [] := KK40.wr W41 (Or.inr sz_b12)
                have A_b12_41 : Ary Z h41 b12 .int (nb ee 0).length (fun i => .int ((upA (rowF (nb (ee.take kk) 0)) ((degF ee kk) 0).toNatClampNeg (3 : Int32)) i)) := A_b12_40.setI W41 (degB hTen (ltA hkl hq)).2
                show Go p e below _ (T41.setTop (mkF m 144 _ []))
                refine gA (q := 145) X41 hx (hb hby d4_144) rfl rfl rfl ?_
                refine gJ (q := 147) X41 hx (hb hby d4_145) rfl rfl ?_
                refine Go.step (ldR X41 hx hZ e41 A_b11_41.ary rfl (j := (3 : Int32)) (by decide) (by decide) (g := (mkF m 147 _ [(.int (3 : Int32)), (.ref b11)])) rfl rfl (hb hby d4_147)) ?_
                show Go p e below _ (T41.setTop (mkF m 148 _ [(.ref b21)]))
                refine gA (q := 149) X41 hx (hb hby d4_148) rfl rfl rfl ?_
                refine gJ (q := 151) X41 hx (hb hby d4_149) rfl rfl ?_
                refine Go.step (S' := T41.setTop (mkF m 152 #[.val (.int (5 : Int32)), .val (.ref a2), .val (.ref b3), .val (.ref b11), .val (.ref a2), .val (.int ee.length.toInt32), .val (.int (Int32.ofNat kk)), .val (.long (enc (0, 3))), .second, .val (.int (0 : Int32)), .val (.int (3 : Int32))] [(.int (3 : Int32)), (.ref b3), (.int (3 : Int32)), (.ref b3), (.ref b21)])) (fun t k => ?_) ?_
                · jvm_step X41.here [X41.here.top, hx, (hb hby d4_151), Value.category]
                  exact k
                show Go p e below _ (T41.setTop (mkF m 152 _ [(.int (3 : Int32)), (.ref b3), (.int (3 : Int32)), (.ref b3), (.ref b21)]))
                refine Go.step (ldI X41 hx hZ e41 A_b3_41 (j := (3 : Int32)) (by decide) (by decide) (g := (mkF m 152 _ [(.int (3 : Int32)), (.ref b3), (.int (3 : Int32)), (.ref b3), (.ref b21)])) rfl rfl (hb hby d4_152)) ?_
                show Go p e below _ (T41.setTop (mkF m 153 _ [(.int ((degF ee kk) 3)), (.int (3 : Int32)), (.ref b3), (.ref b21)]))
                refine Go.step (S' := T41.setTop (mkF m 154 #[.val (.int (5 : Int32)), .val (.ref a2), .val (.ref b3), .val (.ref b11), .val (.ref a2), .val (.int ee.length.toInt32), .val (.int (Int32.ofNat kk)), .val (.long (enc (0, 3))), .second, .val (.int (0 : Int32)), .val (.int (3 : Int32))] [(.int ((degF ee kk) 3)), (.int (3 : Int32)), (.ref b3), (.int ((degF ee kk) 3)), (.ref b21)])) (fun t k => ?_) ?_
                · jvm_step X41.here [X41.here.top, hx, (hb hby d4_153), Value.category]
                  exact k
                show Go p e below _ (T41.setTop (mkF m 154 _ [(.int ((degF ee kk) 3)), (.int (3 : Int32)), (.ref b3), (.int ((degF ee kk) 3)), (.ref b21)]))
                refine gC (q := 155) (v := 1) X41 hx (hb hby d4_154) rfl rfl ?_
                refine Go.step (fun t k => XS.iadd X41.here hx rfl (hb hby d4_155) rfl k) ?_
                show Go p e below _ (T41.setTop (mkF m 156 _ [(.int (((degF ee kk) 3) + (1 : Int32))), (.int (3 : Int32)), (.ref b3), (.int ((degF ee kk) 3)), (.ref b21)]))
                obtain ⟨cl42, Ar42, in42, -⟩ := A_b3_41.hin (j := (3 : Int32)) (by decide) (by decide)
                obtain ⟨T42, h42, X42, e42, W42, st42⟩ := stI X41 hx hZ e41 Ar42 in42 (g := (mkF m 156 #[.val (.int (5 : Int32)), .val (.ref a2), .val (.ref b3), .val (.ref b11), .val (.ref a2), .val (.int ee.length.toInt32), .val (.int (Int32.ofNat kk)), .val (.long (enc (0, 3))), .second, .val (.int (0 : Int32)), .val (.int (3 : Int32))] [(.int (((degF ee kk) 3) + (1 : Int32))), (.int (3 : Int32)), (.ref b3), (.int ((degF ee kk) 3)), (.ref b21)])) rfl rfl (hb hby d4_156)
                refine Go.step st42 ?_
                have N42 := Fr.snoc X42 N41 g_b3
                have A_a2_42 := A_a2_41.other W42 ne_a2_b3
                have A_b15_42 := A_b15_41.other W42 (Ne.symm ne_b3_b15)
                have A_b18_42 := A_b18_41.other W42 (Ne.symm ne_b3_b18)
                have A_b21_42 := A_b21_41.other W42 (Ne.symm ne_b3_b21)
                have A_b24_42 := A_b24_41.other W42 (Ne.symm ne_b3_b24)
                have A_b11_42 := A_b11_41.other W42 (Ne.symm ne_b3_b11)
                have A_b12_42 := A_b12_41.other W42 (Ne.symm ne_b3_b12)
                have Z42 := Nat.le_trans Z41 (Keep.of_wr W42).1
                have KK42 : Keep h0 h42 [] := KK41.wr W42 (Or.inr sz_b3)
                have A_b3_42 : Ary Z h42 b3 .int 5 (fun i => .int ((upA (upA (degF ee kk) 0 (((degF ee kk) 0) + (1 : Int32))) 3 (((degF ee kk) 3) + (1 : Int32))) i)) := A_b3_41.setI W42 (by decide)
                show Go p e below _ (T42.setTop (mkF m 157 _ [(.int ((degF ee kk) 3)), (.ref b21)]))
                refine gJ (q := 159) X42 hx (hb hby d4_157) rfl rfl ?_
                obtain ⟨cl43, Ar43, in43, -⟩ := A_b21_42.hin (j := ((degF ee kk) 3)) (degB hTen (ltB hkl hq (by decide))).1 (degB hTen (ltB hkl hq (by decide))).2
                obtain ⟨T43, h43, X43, e43, W43, st43⟩ := stI X42 hx hZ e42 Ar43 in43 (g := (mkF m 159 #[.val (.int (5 : Int32)), .val (.ref a2), .val (.ref b3), .val (.ref b11), .val (.ref a2), .val (.int ee.length.toInt32), .val (.int (Int32.ofNat kk)), .val (.long (enc (0, 3))), .second, .val (.int (0 : Int32)), .val (.int (3 : Int32))] [(.int (0 : Int32)), (.int ((degF ee kk) 3)), (.ref b21)])) rfl rfl (hb hby d4_159)
                refine Go.step st43 ?_
                have N43 := Fr.snoc X43 N42 g_b21
                have A_a2_43 := A_a2_42.other W43 ne_a2_b21
                have A_b15_43 := A_b15_42.other W43 ne_b15_b21
                have A_b18_43 := A_b18_42.other W43 ne_b18_b21
                have A_b24_43 := A_b24_42.other W43 (Ne.symm ne_b21_b24)
                have A_b11_43 := A_b11_42.other W43 ne_b11_b21
                have A_b12_43 := A_b12_42.other W43 ne_b12_b21
                have A_b3_43 := A_b3_42.other W43 ne_b3_b21
                have Z43 := Nat.le_trans Z42 (Keep.of_wr W43).1
                have KK43 : Keep h0 h43 [] := KK42.wr W43 (Or.inr sz_b21)
                have A_b21_43 : Ary Z h43 b21 .int (nb ee 3).length (fun i => .int ((upA (rowF (nb (ee.take kk) 3)) ((degF ee kk) 3).toNatClampNeg (0 : Int32)) i)) := A_b21_42.setI W43 (degB hTen (ltB hkl hq (by decide))).2
                show Go p e below _ (T43.setTop (mkF m 160 _ []))
                refine Go.step (fun t k => XS.iinc X43.here hx rfl (hb hby d4_160) rfl (l' := #[.val (.int (5 : Int32)), .val (.ref a2), .val (.ref b3), .val (.ref b11), .val (.ref a2), .val (.int ee.length.toInt32), .val (.int ((Int32.ofNat kk) + (1 : Int32))), .val (.long (enc (0, 3))), .second, .val (.int (0 : Int32)), .val (.int (3 : Int32))]) rfl k) ?_
                show Go p e below _ (T43.setTop (mkF m 163 _ []))
                refine Go.step (fun t k => XS.goto X43.here hx rfl (pc0 := 163) (pc' := 100) rfl (hb hby d4_163) (by decide) (by decide) k) ?_
                show Go p e below _ (T43.setTop (mkF m 100 _ []))
                show Go p e below _ (T43.setTop (mkF m 100 _ []))
                rw [succ32]
                exact ih _ (by omega) (kk + 1) _ (One.val rfl) _ (One.val rfl) _ _ Two.v _ _ _ rfl (by omega) X43 N43 e43 KK43 Z43 A_a2_43 (A_b12_43.congr fun q _ => congrArg Value.int (rowA hTen hkl hq (by decide) q)) (A_b15_43.congr fun q _ => congrArg Value.int (by rw [nbC hkl hq (by decide) (by decide)])) (A_b18_43.congr fun q _ => congrArg Value.int (by rw [nbC hkl hq (by decide) (by decide)])) (A_b21_43.congr fun q _ => congrArg Value.int (rowB hTen hkl hq (by decide) (by decide) q)) (A_b24_43.congr fun q _ => congrArg Value.int (by rw [nbC hkl hq (by decide) (by decide)])) A_b11_43 (A_b3_43.congr fun i _ => congrArg Value.int (degS hkl hq (by decide) i))
              · skip
                show Go p e below _ (T31.setTop (mkF m 128 #[.val (.int (5 : Int32)), .val (.ref a2), .val (.ref b3), .val (.ref b11), .val (.ref a2), .val (.int ee.length.toInt32), .val (.int (Int32.ofNat kk)), .val (.long (enc (0, 4))), .second, .val (.int (0 : Int32)), .val (.int (4 : Int32))] []))
                refine gA (q := 129) X31 hx (hb hby d4_128) rfl rfl rfl ?_
                refine gJ (q := 131) X31 hx (hb hby d4_129) rfl rfl ?_
                refine Go.step (ldR X31 hx hZ e31 A_b11_l27.ary rfl (j := (0 : Int32)) (by decide) (by decide) (g := (mkF m 131 _ [(.int (0 : Int32)), (.ref b11)])) rfl rfl (hb hby d4_131)) ?_
                show Go p e below _ (T31.setTop (mkF m 132 _ [(.ref b12)]))
                refine gA (q := 133) X31 hx (hb hby d4_132) rfl rfl rfl ?_
                refine gJ (q := 135) X31 hx (hb hby d4_133) rfl rfl ?_
                refine Go.step (S' := T31.setTop (mkF m 136 #[.val (.int (5 : Int32)), .val (.ref a2), .val (.ref b3), .val (.ref b11), .val (.ref a2), .val (.int ee.length.toInt32), .val (.int (Int32.ofNat kk)), .val (.long (enc (0, 4))), .second, .val (.int (0 : Int32)), .val (.int (4 : Int32))] [(.int (0 : Int32)), (.ref b3), (.int (0 : Int32)), (.ref b3), (.ref b12)])) (fun t k => ?_) ?_
                · jvm_step X31.here [X31.here.top, hx, (hb hby d4_135), Value.category]
                  exact k
                show Go p e below _ (T31.setTop (mkF m 136 _ [(.int (0 : Int32)), (.ref b3), (.int (0 : Int32)), (.ref b3), (.ref b12)]))
                refine Go.step (ldI X31 hx hZ e31 A_b3_l27 (j := (0 : Int32)) (by decide) (by decide) (g := (mkF m 136 _ [(.int (0 : Int32)), (.ref b3), (.int (0 : Int32)), (.ref b3), (.ref b12)])) rfl rfl (hb hby d4_136)) ?_
                show Go p e below _ (T31.setTop (mkF m 137 _ [(.int ((degF ee kk) 0)), (.int (0 : Int32)), (.ref b3), (.ref b12)]))
                refine Go.step (S' := T31.setTop (mkF m 138 #[.val (.int (5 : Int32)), .val (.ref a2), .val (.ref b3), .val (.ref b11), .val (.ref a2), .val (.int ee.length.toInt32), .val (.int (Int32.ofNat kk)), .val (.long (enc (0, 4))), .second, .val (.int (0 : Int32)), .val (.int (4 : Int32))] [(.int ((degF ee kk) 0)), (.int (0 : Int32)), (.ref b3), (.int ((degF ee kk) 0)), (.ref b12)])) (fun t k => ?_) ?_
                · jvm_step X31.here [X31.here.top, hx, (hb hby d4_137), Value.category]
                  exact k
                show Go p e below _ (T31.setTop (mkF m 138 _ [(.int ((degF ee kk) 0)), (.int (0 : Int32)), (.ref b3), (.int ((degF ee kk) 0)), (.ref b12)]))
                refine gC (q := 139) (v := 1) X31 hx (hb hby d4_138) rfl rfl ?_
                refine Go.step (fun t k => XS.iadd X31.here hx rfl (hb hby d4_139) rfl k) ?_
                show Go p e below _ (T31.setTop (mkF m 140 _ [(.int (((degF ee kk) 0) + (1 : Int32))), (.int (0 : Int32)), (.ref b3), (.int ((degF ee kk) 0)), (.ref b12)]))
                obtain ⟨cl44, Ar44, in44, -⟩ := A_b3_l27.hin (j := (0 : Int32)) (by decide) (by decide)
                obtain ⟨T44, h44, X44, e44, W44, st44⟩ := stI X31 hx hZ e31 Ar44 in44 (g := (mkF m 140 #[.val (.int (5 : Int32)), .val (.ref a2), .val (.ref b3), .val (.ref b11), .val (.ref a2), .val (.int ee.length.toInt32), .val (.int (Int32.ofNat kk)), .val (.long (enc (0, 4))), .second, .val (.int (0 : Int32)), .val (.int (4 : Int32))] [(.int (((degF ee kk) 0) + (1 : Int32))), (.int (0 : Int32)), (.ref b3), (.int ((degF ee kk) 0)), (.ref b12)])) rfl rfl (hb hby d4_140)
                refine Go.step st44 ?_
                have N44 := Fr.snoc X44 N31 g_b3
                have A_a2_44 := A_a2_l27.other W44 ne_a2_b3
                have A_b12_44 := A_b12_l27.other W44 (Ne.symm ne_b3_b12)
                have A_b15_44 := A_b15_l27.other W44 (Ne.symm ne_b3_b15)
                have A_b18_44 := A_b18_l27.other W44 (Ne.symm ne_b3_b18)
                have A_b21_44 := A_b21_l27.other W44 (Ne.symm ne_b3_b21)
                have A_b24_44 := A_b24_l27.other W44 (Ne.symm ne_b3_b24)
                have A_b11_44 := A_b11_l27.other W44 (Ne.symm ne_b3_b11)
                have Z44 := Nat.le_trans Zl27 (Keep.of_wr W44).1
                have KK44 : Keep h0 h44 [] := KKl27.wr W44 (Or.inr sz_b3)
                have A_b3_44 : Ary Z h44 b3 .int 5 (fun i => .int ((upA (degF ee kk) 0 (((degF ee kk) 0) + (1 : Int32))) i)) := A_b3_l27.setI W44 (by decide)
                show Go p e below _ (T44.setTop (mkF m 141 _ [(.int ((degF ee kk) 0)), (.ref b12)]))
                refine gJ (q := 143) X44 hx (hb hby d4_141) rfl rfl ?_
                obtain ⟨cl45, Ar45, in45, -⟩ := A_b12_44.hin (j := ((degF ee kk) 0)) (degB hTen (ltA hkl hq)).1 (degB hTen (ltA hkl hq)).2
                obtain ⟨T45, h45, X45, e45, W45, st45⟩ := stI X44 hx hZ e44 Ar45 in45 (g := (mkF m 143 #[.val (.int (5 : Int32)), .val (.ref a2), .val (.ref b3), .val (.ref b11), .val (.ref a2), .val (.int ee.length.toInt32), .val (.int (Int32.ofNat kk)), .val (.long (enc (0, 4))), .second, .val (.int (0 : Int32)), .val (.int (4 : Int32))] [(.int (4 : Int32)), (.int ((degF ee kk) 0)), (.ref b12)])) rfl rfl (hb hby d4_143)
                refine Go.step st45 ?_
                have N45 := Fr.snoc X45 N44 g_b12
                have A_a2_45 := A_a2_44.other W45 ne_a2_b12
                have A_b15_45 := A_b15_44.other W45 (Ne.symm ne_b12_b15)
                have A_b18_45 := A_b18_44.other W45 (Ne.symm ne_b12_b18)
                have A_b21_45 := A_b21_44.other W45 (Ne.symm ne_b12_b21)
                have A_b24_45 := A_b24_44.other W45 (Ne.symm ne_b12_b24)
                have A_b11_45 := A_b11_44.other W45 ne_b11_b12
                have A_b3_45 := A_b3_44.other W45 ne_b3_b12
                have Z45 := Nat.le_trans Z44 (Keep.of_wr W45).1
                have KK45 : Keep h0 h45 [] := KK44.wr W45 (Or.inr sz_b12)
                have A_b12_45 : Ary Z h45 b12 .int (nb ee 0).length (fun i => .int ((upA (rowF (nb (ee.take kk) 0)) ((degF ee kk) 0).toNatClampNeg (4 : Int32)) i)) := A_b12_44.setI W45 (degB hTen (ltA hkl hq)).2
                show Go p e below _ (T45.setTop (mkF m 144 _ []))
                refine gA (q := 145) X45 hx (hb hby d4_144) rfl rfl rfl ?_
                refine gJ (q := 147) X45 hx (hb hby d4_145) rfl rfl ?_
                refine Go.step (ldR X45 hx hZ e45 A_b11_45.ary rfl (j := (4 : Int32)) (by decide) (by decide) (g := (mkF m 147 _ [(.int (4 : Int32)), (.ref b11)])) rfl rfl (hb hby d4_147)) ?_
                show Go p e below _ (T45.setTop (mkF m 148 _ [(.ref b24)]))
                refine gA (q := 149) X45 hx (hb hby d4_148) rfl rfl rfl ?_
                refine gJ (q := 151) X45 hx (hb hby d4_149) rfl rfl ?_
                refine Go.step (S' := T45.setTop (mkF m 152 #[.val (.int (5 : Int32)), .val (.ref a2), .val (.ref b3), .val (.ref b11), .val (.ref a2), .val (.int ee.length.toInt32), .val (.int (Int32.ofNat kk)), .val (.long (enc (0, 4))), .second, .val (.int (0 : Int32)), .val (.int (4 : Int32))] [(.int (4 : Int32)), (.ref b3), (.int (4 : Int32)), (.ref b3), (.ref b24)])) (fun t k => ?_) ?_
                · jvm_step X45.here [X45.here.top, hx, (hb hby d4_151), Value.category]
                  exact k
                show Go p e below _ (T45.setTop (mkF m 152 _ [(.int (4 : Int32)), (.ref b3), (.int (4 : Int32)), (.ref b3), (.ref b24)]))
                refine Go.step (ldI X45 hx hZ e45 A_b3_45 (j := (4 : Int32)) (by decide) (by decide) (g := (mkF m 152 _ [(.int (4 : Int32)), (.ref b3), (.int (4 : Int32)), (.ref b3), (.ref b24)])) rfl rfl (hb hby d4_152)) ?_
                show Go p e below _ (T45.setTop (mkF m 153 _ [(.int ((degF ee kk) 4)), (.int (4 : Int32)), (.ref b3), (.ref b24)]))
                refine Go.step (S' := T45.setTop (mkF m 154 #[.val (.int (5 : Int32)), .val (.ref a2), .val (.ref b3), .val (.ref b11), .val (.ref a2), .val (.int ee.length.toInt32), .val (.int (Int32.ofNat kk)), .val (.long (enc (0, 4))), .second, .val (.int (0 : Int32)), .val (.int (4 : Int32))] [(.int ((degF ee kk) 4)), (.int (4 : Int32)), (.ref b3), (.int ((degF ee kk) 4)), (.ref b24)])) (fun t k => ?_) ?_
                · jvm_step X45.here [X45.here.top, hx, (hb hby d4_153), Value.category]
                  exact k
                show Go p e below _ (T45.setTop (mkF m 154 _ [(.int ((degF ee kk) 4)), (.int (4 : Int32)), (.ref b3), (.int ((degF ee kk) 4)), (.ref b24)]))
                refine gC (q := 155) (v := 1) X45 hx (hb hby d4_154) rfl rfl ?_
                refine Go.step (fun t k => XS.iadd X45.here hx rfl (hb hby d4_155) rfl k) ?_
                show Go p e below _ (T45.setTop (mkF m 156 _ [(.int (((degF ee kk) 4) + (1 : Int32))), (.int (4 : Int32)), (.ref b3), (.int ((degF ee kk) 4)), (.ref b24)]))
                obtain ⟨cl46, Ar46, in46, -⟩ := A_b3_45.hin (j := (4 : Int32)) (by decide) (by decide)
                obtain ⟨T46, h46, X46, e46, W46, st46⟩ := stI X45 hx hZ e45 Ar46 in46 (g := (mkF m 156 #[.val (.int (5 : Int32)), .val (.ref a2), .val (.ref b3), .val (.ref b11), .val (.ref a2), .val (.int ee.length.toInt32), .val (.int (Int32.ofNat kk)), .val (.long (enc (0, 4))), .second, .val (.int (0 : Int32)), .val (.int (4 : Int32))] [(.int (((degF ee kk) 4) + (1 : Int32))), (.int (4 : Int32)), (.ref b3), (.int ((degF ee kk) 4)), (.ref b24)])) rfl rfl (hb hby d4_156)
                refine Go.step st46 ?_
                have N46 := Fr.snoc X46 N45 g_b3
                have A_a2_46 := A_a2_45.other W46 ne_a2_b3
                have A_b15_46 := A_b15_45.other W46 (Ne.symm ne_b3_b15)
                have A_b18_46 := A_b18_45.other W46 (Ne.symm ne_b3_b18)
                have A_b21_46 := A_b21_45.other W46 (Ne.symm ne_b3_b21)
                have A_b24_46 := A_b24_45.other W46 (Ne.symm ne_b3_b24)
                have A_b11_46 := A_b11_45.other W46 (Ne.symm ne_b3_b11)
                have A_b12_46 := A_b12_45.other W46 (Ne.symm ne_b3_b12)
                have Z46 := Nat.le_trans Z45 (Keep.of_wr W46).1
                have KK46 : Keep h0 h46 [] := KK45.wr W46 (Or.inr sz_b3)
                have A_b3_46 : Ary Z h46 b3 .int 5 (fun i => .int ((upA (upA (degF ee kk) 0 (((degF ee kk) 0) + (1 : Int32))) 4 (((degF ee kk) 4) + (1 : Int32))) i)) := A_b3_45.setI W46 (by decide)
                show Go p e below _ (T46.setTop (mkF m 157 _ [(.int ((degF ee kk) 4)), (.ref b24)]))
                refine gJ (q := 159) X46 hx (hb hby d4_157) rfl rfl ?_
                obtain ⟨cl47, Ar47, in47, -⟩ := A_b24_46.hin (j := ((degF ee kk) 4)) (degB hTen (ltB hkl hq (by decide))).1 (degB hTen (ltB hkl hq (by decide))).2
                obtain ⟨T47, h47, X47, e47, W47, st47⟩ := stI X46 hx hZ e46 Ar47 in47 (g := (mkF m 159 #[.val (.int (5 : Int32)), .val (.ref a2), .val (.ref b3), .val (.ref b11), .val (.ref a2), .val (.int ee.length.toInt32), .val (.int (Int32.ofNat kk)), .val (.long (enc (0, 4))), .second, .val (.int (0 : Int32)), .val (.int (4 : Int32))] [(.int (0 : Int32)), (.int ((degF ee kk) 4)), (.ref b24)])) rfl rfl (hb hby d4_159)
                refine Go.step st47 ?_
                have N47 := Fr.snoc X47 N46 g_b24
                have A_a2_47 := A_a2_46.other W47 ne_a2_b24
                have A_b15_47 := A_b15_46.other W47 ne_b15_b24
                have A_b18_47 := A_b18_46.other W47 ne_b18_b24
                have A_b21_47 := A_b21_46.other W47 ne_b21_b24
                have A_b11_47 := A_b11_46.other W47 ne_b11_b24
                have A_b12_47 := A_b12_46.other W47 ne_b12_b24
                have A_b3_47 := A_b3_46.other W47 ne_b3_b24
                have Z47 := Nat.le_trans Z46 (Keep.of_wr W47).1
                have KK47 : Keep h0 h47 [] := KK46.wr W47 (Or.inr sz_b24)
                have A_b24_47 : Ary Z h47 b24 .int (nb ee 4).length (fun i => .int ((upA (rowF (nb (ee.take kk) 4)) ((degF ee kk) 4).toNatClampNeg (0 : Int32)) i)) := A_b24_46.setI W47 (degB hTen (ltB hkl hq (by decide))).2
                show Go p e below _ (T47.setTop (mkF m 160 _ []))
                refine Go.step (fun t k => XS.iinc X47.here hx rfl (hb hby d4_160) rfl (l' := #[.val (.int (5 : Int32)), .val (.ref a2), .val (.ref b3), .val (.ref b11), .val (.ref a2), .val (.int ee.length.toInt32), .val (.int ((Int32.ofNat kk) + (1 : Int32))), .val (.long (enc (0, 4))), .second, .val (.int (0 : Int32)), .val (.int (4 : Int32))]) rfl k) ?_
                show Go p e below _ (T47.setTop (mkF m 163 _ []))
                refine Go.step (fun t k => XS.goto X47.here hx rfl (pc0 := 163) (pc' := 100) rfl (hb hby d4_163) (by decide) (by decide) k) ?_
                show Go p e below _ (T47.setTop (mkF m 100 _ []))
                show Go p e below _ (T47.setTop (mkF m 100 _ []))
                rw [succ32]
                exact ih _ (by omega) (kk + 1) _ (One.val rfl) _ (One.val rfl) _ _ Two.v _ _ _ rfl (by omega) X47 N47 e47 KK47 Z47 A_a2_47 (A_b12_47.congr fun q _ => congrArg Value.int (rowA hTen hkl hq (by decide) q)) (A_b15_47.congr fun q _ => congrArg Value.int (by rw [nbC hkl hq (by decide) (by decide)])) (A_b18_47.congr fun q _ => congrArg Value.int (by rw [nbC hkl hq (by decide) (by decide)])) (A_b21_47.congr fun q _ => congrArg Value.int (by rw [nbC hkl hq (by decide) (by decide)])) (A_b24_47.congr fun q _ => congrArg Value.int (rowB hTen hkl hq (by decide) (by decide) q)) A_b11_47 (A_b3_47.congr fun i _ => congrArg Value.int (degS hkl hq (by decide) i))
              · skip
                show Go p e below _ (T31.setTop (mkF m 128 #[.val (.int (5 : Int32)), .val (.ref a2), .val (.ref b3), .val (.ref b11), .val (.ref a2), .val (.int ee.length.toInt32), .val (.int (Int32.ofNat kk)), .val (.long (enc (1, 2))), .second, .val (.int (1 : Int32)), .val (.int (2 : Int32))] []))
                refine gA (q := 129) X31 hx (hb hby d4_128) rfl rfl rfl ?_
                refine gJ (q := 131) X31 hx (hb hby d4_129) rfl rfl ?_
                refine Go.step (ldR X31 hx hZ e31 A_b11_l27.ary rfl (j := (1 : Int32)) (by decide) (by decide) (g := (mkF m 131 _ [(.int (1 : Int32)), (.ref b11)])) rfl rfl (hb hby d4_131)) ?_
                show Go p e below _ (T31.setTop (mkF m 132 _ [(.ref b15)]))
                refine gA (q := 133) X31 hx (hb hby d4_132) rfl rfl rfl ?_
                refine gJ (q := 135) X31 hx (hb hby d4_133) rfl rfl ?_
                refine Go.step (S' := T31.setTop (mkF m 136 #[.val (.int (5 : Int32)), .val (.ref a2), .val (.ref b3), .val (.ref b11), .val (.ref a2), .val (.int ee.length.toInt32), .val (.int (Int32.ofNat kk)), .val (.long (enc (1, 2))), .second, .val (.int (1 : Int32)), .val (.int (2 : Int32))] [(.int (1 : Int32)), (.ref b3), (.int (1 : Int32)), (.ref b3), (.ref b15)])) (fun t k => ?_) ?_
                · jvm_step X31.here [X31.here.top, hx, (hb hby d4_135), Value.category]
                  exact k
                show Go p e below _ (T31.setTop (mkF m 136 _ [(.int (1 : Int32)), (.ref b3), (.int (1 : Int32)), (.ref b3), (.ref b15)]))
                refine Go.step (ldI X31 hx hZ e31 A_b3_l27 (j := (1 : Int32)) (by decide) (by decide) (g := (mkF m 136 _ [(.int (1 : Int32)), (.ref b3), (.int (1 : Int32)), (.ref b3), (.ref b15)])) rfl rfl (hb hby d4_136)) ?_
                show Go p e below _ (T31.setTop (mkF m 137 _ [(.int ((degF ee kk) 1)), (.int (1 : Int32)), (.ref b3), (.ref b15)]))
                refine Go.step (S' := T31.setTop (mkF m 138 #[.val (.int (5 : Int32)), .val (.ref a2), .val (.ref b3), .val (.ref b11), .val (.ref a2), .val (.int ee.length.toInt32), .val (.int (Int32.ofNat kk)), .val (.long (enc (1, 2))), .second, .val (.int (1 : Int32)), .val (.int (2 : Int32))] [(.int ((degF ee kk) 1)), (.int (1 : Int32)), (.ref b3), (.int ((degF ee kk) 1)), (.ref b15)])) (fun t k => ?_) ?_
                · jvm_step X31.here [X31.here.top, hx, (hb hby d4_137), Value.category]
                  exact k
                show Go p e below _ (T31.setTop (mkF m 138 _ [(.int ((degF ee kk) 1)), (.int (1 : Int32)), (.ref b3), (.int ((degF ee kk) 1)), (.ref b15)]))
                refine gC (q := 139) (v := 1) X31 hx (hb hby d4_138) rfl rfl ?_
                refine Go.step (fun t k => XS.iadd X31.here hx rfl (hb hby d4_139) rfl k) ?_
                show Go p e below _ (T31.setTop (mkF m 140 _ [(.int (((degF ee kk) 1) + (1 : Int32))), (.int (1 : Int32)), (.ref b3), (.int ((degF ee kk) 1)), (.ref b15)]))
                obtain ⟨cl48, Ar48, in48, -⟩ := A_b3_l27.hin (j := (1 : Int32)) (by decide) (by decide)
                obtain ⟨T48, h48, X48, e48, W48, st48⟩ := stI X31 hx hZ e31 Ar48 in48 (g := (mkF m 140 #[.val (.int (5 : Int32)), .val (.ref a2), .val (.ref b3), .val (.ref b11), .val (.ref a2), .val (.int ee.length.toInt32), .val (.int (Int32.ofNat kk)), .val (.long (enc (1, 2))), .second, .val (.int (1 : Int32)), .val (.int (2 : Int32))] [(.int (((degF ee kk) 1) + (1 : Int32))), (.int (1 : Int32)), (.ref b3), (.int ((degF ee kk) 1)), (.ref b15)])) rfl rfl (hb hby d4_140)
                refine Go.step st48 ?_
                have N48 := Fr.snoc X48 N31 g_b3
                have A_a2_48 := A_a2_l27.other W48 ne_a2_b3
                have A_b12_48 := A_b12_l27.other W48 (Ne.symm ne_b3_b12)
                have A_b15_48 := A_b15_l27.other W48 (Ne.symm ne_b3_b15)
                have A_b18_48 := A_b18_l27.other W48 (Ne.symm ne_b3_b18)
                have A_b21_48 := A_b21_l27.other W48 (Ne.symm ne_b3_b21)
                have A_b24_48 := A_b24_l27.other W48 (Ne.symm ne_b3_b24)
                have A_b11_48 := A_b11_l27.other W48 (Ne.symm ne_b3_b11)
                have Z48 := Nat.le_trans Zl27 (Keep.of_wr W48).1
                have KK48 : Keep h0 h48 [] := KKl27.wr W48 (Or.inr sz_b3)
                have A_b3_48 : Ary Z h48 b3 .int 5 (fun i => .int ((upA (degF ee kk) 1 (((degF ee kk) 1) + (1 : Int32))) i)) := A_b3_l27.setI W48 (by decide)
                show Go p e below _ (T48.setTop (mkF m 141 _ [(.int ((degF ee kk) 1)), (.ref b15)]))
                refine gJ (q := 143) X48 hx (hb hby d4_141) rfl rfl ?_
                obtain ⟨cl49, Ar49, in49, -⟩ := A_b15_48.hin (j := ((degF ee kk) 1)) (degB hTen (ltA hkl hq)).1 (degB hTen (ltA hkl hq)).2
                obtain ⟨T49, h49, X49, e49, W49, st49⟩ := stI X48 hx hZ e48 Ar49 in49 (g := (mkF m 143 #[.val (.int (5 : Int32)), .val (.ref a2), .val (.ref b3), .val (.ref b11), .val (.ref a2), .val (.int ee.length.toInt32), .val (.int (Int32.ofNat kk)), .val (.long (enc (1, 2))), .second, .val (.int (1 : Int32)), .val (.int (2 : Int32))] [(.int (2 : Int32)), (.int ((degF ee kk) 1)), (.ref b15)])) rfl rfl (hb hby d4_143)
                refine Go.step st49 ?_
                have N49 := Fr.snoc X49 N48 g_b15
                have A_a2_49 := A_a2_48.other W49 ne_a2_b15
                have A_b12_49 := A_b12_48.other W49 ne_b12_b15
                have A_b18_49 := A_b18_48.other W49 (Ne.symm ne_b15_b18)
                have A_b21_49 := A_b21_48.other W49 (Ne.symm ne_b15_b21)
                have A_b24_49 := A_b24_48.other W49 (Ne.symm ne_b15_b24)
                have A_b11_49 := A_b11_48.other W49 ne_b11_b15
                have A_b3_49 := A_b3_48.other W49 ne_b3_b15
                have Z49 := Nat.le_trans Z48 (Keep.of_wr W49).1
                have KK49 : Keep h0 h49 [] := KK48.wr W49 (Or.inr sz_b15)
                have A_b15_49 : Ary Z h49 b15 .int (nb ee 1).length (fun i => .int ((upA (rowF (nb (ee.take kk) 1)) ((degF ee kk) 1).toNatClampNeg (2 : Int32)) i)) := A_b15_48.setI W49 (degB hTen (ltA hkl hq)).2
                show Go p e below _ (T49.setTop (mkF m 144 _ []))
                refine gA (q := 145) X49 hx (hb hby d4_144) rfl rfl rfl ?_
                refine gJ (q := 147) X49 hx (hb hby d4_145) rfl rfl ?_
                refine Go.step (ldR X49 hx hZ e49 A_b11_49.ary rfl (j := (2 : Int32)) (by decide) (by decide) (g := (mkF m 147 _ [(.int (2 : Int32)), (.ref b11)])) rfl rfl (hb hby d4_147)) ?_
                show Go p e below _ (T49.setTop (mkF m 148 _ [(.ref b18)]))
                refine gA (q := 149) X49 hx (hb hby d4_148) rfl rfl rfl ?_
                refine gJ (q := 151) X49 hx (hb hby d4_149) rfl rfl ?_
                refine Go.step (S' := T49.setTop (mkF m 152 #[.val (.int (5 : Int32)), .val (.ref a2), .val (.ref b3), .val (.ref b11), .val (.ref a2), .val (.int ee.length.toInt32), .val (.int (Int32.ofNat kk)), .val (.long (enc (1, 2))), .second, .val (.int (1 : Int32)), .val (.int (2 : Int32))] [(.int (2 : Int32)), (.ref b3), (.int (2 : Int32)), (.ref b3), (.ref b18)])) (fun t k => ?_) ?_
                · jvm_step X49.here [X49.here.top, hx, (hb hby d4_151), Value.category]
                  exact k
                show Go p e below _ (T49.setTop (mkF m 152 _ [(.int (2 : Int32)), (.ref b3), (.int (2 : Int32)), (.ref b3), (.ref b18)]))
                refine Go.step (ldI X49 hx hZ e49 A_b3_49 (j := (2 : Int32)) (by decide) (by decide) (g := (mkF m 152 _ [(.int (2 : Int32)), (.ref b3), (.int (2 : Int32)), (.ref b3), (.ref b18)])) rfl rfl (hb hby d4_152)) ?_
                show Go p e below _ (T49.setTop (mkF m 153 _ [(.int ((degF ee kk) 2)), (.int (2 : Int32)), (.ref b3), (.ref b18)]))
                refine Go.step (S' := T49.setTop (mkF m 154 #[.val (.int (5 : Int32)), .val (.ref a2), .val (.ref b3), .val (.ref b11), .val (.ref a2), .val (.int ee.length.toInt32), .val (.int (Int32.ofNat kk)), .val (.long (enc (1, 2))), .second, .val (.int (1 : Int32)), .val (.int (2 : Int32))] [(.int ((degF ee kk) 2)), (.int (2 : Int32)), (.ref b3), (.int ((degF ee kk) 2)), (.ref b18)])) (fun t k => ?_) ?_
                · jvm_step X49.here [X49.here.top, hx, (hb hby d4_153), Value.category]
                  exact k
                show Go p e below _ (T49.setTop (mkF m 154 _ [(.int ((degF ee kk) 2)), (.int (2 : Int32)), (.ref b3), (.int ((degF ee kk) 2)), (.ref b18)]))
                refine gC (q := 155) (v := 1) X49 hx (hb hby d4_154) rfl rfl ?_
                refine Go.step (fun t k => XS.iadd X49.here hx rfl (hb hby d4_155) rfl k) ?_
                show Go p e below _ (T49.setTop (mkF m 156 _ [(.int (((degF ee kk) 2) + (1 : Int32))), (.int (2 : Int32)), (.ref b3), (.int ((degF ee kk) 2)), (.ref b18)]))
                obtain ⟨cl50, Ar50, in50, -⟩ := A_b3_49.hin (j := (2 : Int32)) (by decide) (by decide)
                obtain ⟨T50, h50, X50, e50, W50, st50⟩ := stI X49 hx hZ e49 Ar50 in50 (g := (mkF m 156 #[.val (.int (5 : Int32)), .val (.ref a2), .val (.ref b3), .val (.ref b11), .val (.ref a2), .val (.int ee.length.toInt32), .val (.int (Int32.ofNat kk)), .val (.long (enc (1, 2))), .second, .val (.int (1 : Int32)), .val (.int (2 : Int32))] [(.int (((degF ee kk) 2) + (1 : Int32))), (.int (2 : Int32)), (.ref b3), (.int ((degF ee kk) 2)), (.ref b18)])) rfl rfl (hb hby d4_156)
                refine Go.step st50 ?_
                have N50 := Fr.snoc X50 N49 g_b3
                have A_a2_50 := A_a2_49.other W50 ne_a2_b3
                have A_b12_50 := A_b12_49.other W50 (Ne.symm ne_b3_b12)
                have A_b18_50 := A_b18_49.other W50 (Ne.symm ne_b3_b18)
                have A_b21_50 := A_b21_49.other W50 (Ne.symm ne_b3_b21)
                have A_b24_50 := A_b24_49.other W50 (Ne.symm ne_b3_b24)
                have A_b11_50 := A_b11_49.other W50 (Ne.symm ne_b3_b11)
                have A_b15_50 := A_b15_49.other W50 (Ne.symm ne_b3_b15)
                have Z50 := Nat.le_trans Z49 (Keep.of_wr W50).1
                have KK50 : Keep h0 h50 [] := KK49.wr W50 (Or.inr sz_b3)
                have A_b3_50 : Ary Z h50 b3 .int 5 (fun i => .int ((upA (upA (degF ee kk) 1 (((degF ee kk) 1) + (1 : Int32))) 2 (((degF ee kk) 2) + (1 : Int32))) i)) := A_b3_49.setI W50 (by decide)
                show Go p e below _ (T50.setTop (mkF m 157 _ [(.int ((degF ee kk) 2)), (.ref b18)]))
                refine gJ (q := 159) X50 hx (hb hby d4_157) rfl rfl ?_
                obtain ⟨cl51, Ar51, in51, -⟩ := A_b18_50.hin (j := ((degF ee kk) 2)) (degB hTen (ltB hkl hq (by decide))).1 (degB hTen (ltB hkl hq (by decide))).2
                obtain ⟨T51, h51, X51, e51, W51, st51⟩ := stI X50 hx hZ e50 Ar51 in51 (g := (mkF m 159 #[.val (.int (5 : Int32)), .val (.ref a2), .val (.ref b3), .val (.ref b11), .val (.ref a2), .val (.int ee.length.toInt32), .val (.int (Int32.ofNat kk)), .val (.long (enc (1, 2))), .second, .val (.int (1 : Int32)), .val (.int (2 : Int32))] [(.int (1 : Int32)), (.int ((degF ee kk) 2)), (.ref b18)])) rfl rfl (hb hby d4_159)
                refine Go.step st51 ?_
                have N51 := Fr.snoc X51 N50 g_b18
                have A_a2_51 := A_a2_50.other W51 ne_a2_b18
                have A_b12_51 := A_b12_50.other W51 ne_b12_b18
                have A_b21_51 := A_b21_50.other W51 (Ne.symm ne_b18_b21)
                have A_b24_51 := A_b24_50.other W51 (Ne.symm ne_b18_b24)
                have A_b11_51 := A_b11_50.other W51 ne_b11_b18
                have A_b15_51 := A_b15_50.other W51 ne_b15_b18
                have A_b3_51 := A_b3_50.other W51 ne_b3_b18
                have Z51 := Nat.le_trans Z50 (Keep.of_wr W51).1
                have KK51 : Keep h0 h51 [] := KK50.wr W51 (Or.inr sz_b18)
                have A_b18_51 : Ary Z h51 b18 .int (nb ee 2).length (fun i => .int ((upA (rowF (nb (ee.take kk) 2)) ((degF ee kk) 2).toNatClampNeg (1 : Int32)) i)) := A_b18_50.setI W51 (degB hTen (ltB hkl hq (by decide))).2
                show Go p e below _ (T51.setTop (mkF m 160 _ []))
                refine Go.step (fun t k => XS.iinc X51.here hx rfl (hb hby d4_160) rfl (l' := #[.val (.int (5 : Int32)), .val (.ref a2), .val (.ref b3), .val (.ref b11), .val (.ref a2), .val (.int ee.length.toInt32), .val (.int ((Int32.ofNat kk) + (1 : Int32))), .val (.long (enc (1, 2))), .second, .val (.int (1 : Int32)), .val (.int (2 : Int32))]) rfl k) ?_
                show Go p e below _ (T51.setTop (mkF m 163 _ []))
                refine Go.step (fun t k => XS.goto X51.here hx rfl (pc0 := 163) (pc' := 100) rfl (hb hby d4_163) (by decide) (by decide) k) ?_
                show Go p e below _ (T51.setTop (mkF m 100 _ []))
                show Go p e below _ (T51.setTop (mkF m 100 _ []))
                rw [succ32]
                exact ih _ (by omega) (kk + 1) _ (One.val rfl) _ (One.val rfl) _ _ Two.v _ _ _ rfl (by omega) X51 N51 e51 KK51 Z51 A_a2_51 (A_b12_51.congr fun q _ => congrArg Value.int (by rw [nbC hkl hq (by decide) (by decide)])) (A_b15_51.congr fun q _ => congrArg Value.int (rowA hTen hkl hq (by decide) q)) (A_b18_51.congr fun q _ => congrArg Value.int (rowB hTen hkl hq (by decide) (by decide) q)) (A_b21_51.congr fun q _ => congrArg Value.int (by rw [nbC hkl hq (by decide) (by decide)])) (A_b24_51.congr fun q _ => congrArg Value.int (by rw [nbC hkl hq (by decide) (by decide)])) A_b11_51 (A_b3_51.congr fun i _ => congrArg Value.int (degS hkl hq (by decide) i))
              · skip
                show Go p e below _ (T31.setTop (mkF m 128 #[.val (.int (5 : Int32)), .val (.ref a2), .val (.ref b3), .val (.ref b11), .val (.ref a2), .val (.int ee.length.toInt32), .val (.int (Int32.ofNat kk)), .val (.long (enc (1, 3))), .second, .val (.int (1 : Int32)), .val (.int (3 : Int32))] []))
                refine gA (q := 129) X31 hx (hb hby d4_128) rfl rfl rfl ?_
                refine gJ (q := 131) X31 hx (hb hby d4_129) rfl rfl ?_
                refine Go.step (ldR X31 hx hZ e31 A_b11_l27.ary rfl (j := (1 : Int32)) (by decide) (by decide) (g := (mkF m 131 _ [(.int (1 : Int32)), (.ref b11)])) rfl rfl (hb hby d4_131)) ?_
                show Go p e below _ (T31.setTop (mkF m 132 _ [(.ref b15)]))
                refine gA (q := 133) X31 hx (hb hby d4_132) rfl rfl rfl ?_
                refine gJ (q := 135) X31 hx (hb hby d4_133) rfl rfl ?_
                refine Go.step (S' := T31.setTop (mkF m 136 #[.val (.int (5 : Int32)), .val (.ref a2), .val (.ref b3), .val (.ref b11), .val (.ref a2), .val (.int ee.length.toInt32), .val (.int (Int32.ofNat kk)), .val (.long (enc (1, 3))), .second, .val (.int (1 : Int32)), .val (.int (3 : Int32))] [(.int (1 : Int32)), (.ref b3), (.int (1 : Int32)), (.ref b3), (.ref b15)])) (fun t k => ?_) ?_
                · jvm_step X31.here [X31.here.top, hx, (hb hby d4_135), Value.category]
                  exact k
                show Go p e below _ (T31.setTop (mkF m 136 _ [(.int (1 : Int32)), (.ref b3), (.int (1 : Int32)), (.ref b3), (.ref b15)]))
                refine Go.step (ldI X31 hx hZ e31 A_b3_l27 (j := (1 : Int32)) (by decide) (by decide) (g := (mkF m 136 _ [(.int (1 : Int32)), (.ref b3), (.int (1 : Int32)), (.ref b3), (.ref b15)])) rfl rfl (hb hby d4_136)) ?_
                show Go p e below _ (T31.setTop (mkF m 137 _ [(.int ((degF ee kk) 1)), (.int (1 : Int32)), (.ref b3), (.ref b15)]))
                refine Go.step (S' := T31.setTop (mkF m 138 #[.val (.int (5 : Int32)), .val (.ref a2), .val (.ref b3), .val (.ref b11), .val (.ref a2), .val (.int ee.length.toInt32), .val (.int (Int32.ofNat kk)), .val (.long (enc (1, 3))), .second, .val (.int (1 : Int32)), .val (.int (3 : Int32))] [(.int ((degF ee kk) 1)), (.int (1 : Int32)), (.ref b3), (.int ((degF ee kk) 1)), (.ref b15)])) (fun t k => ?_) ?_
                · jvm_step X31.here [X31.here.top, hx, (hb hby d4_137), Value.category]
                  exact k
                show Go p e below _ (T31.setTop (mkF m 138 _ [(.int ((degF ee kk) 1)), (.int (1 : Int32)), (.ref b3), (.int ((degF ee kk) 1)), (.ref b15)]))
                refine gC (q := 139) (v := 1) X31 hx (hb hby d4_138) rfl rfl ?_
                refine Go.step (fun t k => XS.iadd X31.here hx rfl (hb hby d4_139) rfl k) ?_
                show Go p e below _ (T31.setTop (mkF m 140 _ [(.int (((degF ee kk) 1) + (1 : Int32))), (.int (1 : Int32)), (.ref b3), (.int ((degF ee kk) 1)), (.ref b15)]))
                obtain ⟨cl52, Ar52, in52, -⟩ := A_b3_l27.hin (j := (1 : Int32)) (by decide) (by decide)
                obtain ⟨T52, h52, X52, e52, W52, st52⟩ := stI X31 hx hZ e31 Ar52 in52 (g := (mkF m 140 #[.val (.int (5 : Int32)), .val (.ref a2), .val (.ref b3), .val (.ref b11), .val (.ref a2), .val (.int ee.length.toInt32), .val (.int (Int32.ofNat kk)), .val (.long (enc (1, 3))), .second, .val (.int (1 : Int32)), .val (.int (3 : Int32))] [(.int (((degF ee kk) 1) + (1 : Int32))), (.int (1 : Int32)), (.ref b3), (.int ((degF ee kk) 1)), (.ref b15)])) rfl rfl (hb hby d4_140)
                refine Go.step st52 ?_
                have N52 := Fr.snoc X52 N31 g_b3
                have A_a2_52 := A_a2_l27.other W52 ne_a2_b3
                have A_b12_52 := A_b12_l27.other W52 (Ne.symm ne_b3_b12)
                have A_b15_52 := A_b15_l27.other W52 (Ne.symm ne_b3_b15)
                have A_b18_52 := A_b18_l27.other W52 (Ne.symm ne_b3_b18)
                have A_b21_52 := A_b21_l27.other W52 (Ne.symm ne_b3_b21)
                have A_b24_52 := A_b24_l27.other W52 (Ne.symm ne_b3_b24)
                have A_b11_52 := A_b11_l27.other W52 (Ne.symm ne_b3_b11)
                have Z52 := Nat.le_trans Zl27 (Keep.of_wr W52).1
                have KK52 : Keep h0 h52 [] := KKl27.wr W52 (Or.inr sz_b3)
                have A_b3_52 : Ary Z h52 b3 .int 5 (fun i => .int ((upA (degF ee kk) 1 (((degF ee kk) 1) + (1 : Int32))) i)) := A_b3_l27.setI W52 (by decide)
                show Go p e below _ (T52.setTop (mkF m 141 _ [(.int ((degF ee kk) 1)), (.ref b15)]))
                refine gJ (q := 143) X52 hx (hb hby d4_141) rfl rfl ?_
                obtain ⟨cl53, Ar53, in53, -⟩ := A_b15_52.hin (j := ((degF ee kk) 1)) (degB hTen (ltA hkl hq)).1 (degB hTen (ltA hkl hq)).2
                obtain ⟨T53, h53, X53, e53, W53, st53⟩ := stI X52 hx hZ e52 Ar53 in53 (g := (mkF m 143 #[.val (.int (5 : Int32)), .val (.ref a2), .val (.ref b3), .val (.ref b11), .val (.ref a2), .val (.int ee.length.toInt32), .val (.int (Int32.ofNat kk)), .val (.long (enc (1, 3))), .second, .val (.int (1 : Int32)), .val (.int (3 : Int32))] [(.int (3 : Int32)), (.int ((degF ee kk) 1)), (.ref b15)])) rfl rfl (hb hby d4_143)
                refine Go.step st53 ?_
                have N53 := Fr.snoc X53 N52 g_b15
                have A_a2_53 := A_a2_52.other W53 ne_a2_b15
                have A_b12_53 := A_b12_52.other W53 ne_b12_b15
                have A_b18_53 := A_b18_52.other W53 (Ne.symm ne_b15_b18)
                have A_b21_53 := A_b21_52.other W53 (Ne.symm ne_b15_b21)
                have A_b24_53 := A_b24_52.other W53 (Ne.symm ne_b15_b24)
                have A_b11_53 := A_b11_52.other W53 ne_b11_b15
                have A_b3_53 := A_b3_52.other W53 ne_b3_b15
                have Z53 := Nat.le_trans Z52 (Keep.of_wr W53).1
                have KK53 : Keep h0 h53 [] := KK52.wr W53 (Or.inr sz_b15)
                have A_b15_53 : Ary Z h53 b15 .int (nb ee 1).length (fun i => .int ((upA (rowF (nb (ee.take kk) 1)) ((degF ee kk) 1).toNatClampNeg (3 : Int32)) i)) := A_b15_52.setI W53 (degB hTen (ltA hkl hq)).2
                show Go p e below _ (T53.setTop (mkF m 144 _ []))
                refine gA (q := 145) X53 hx (hb hby d4_144) rfl rfl rfl ?_
                refine gJ (q := 147) X53 hx (hb hby d4_145) rfl rfl ?_
                refine Go.step (ldR X53 hx hZ e53 A_b11_53.ary rfl (j := (3 : Int32)) (by decide) (by decide) (g := (mkF m 147 _ [(.int (3 : Int32)), (.ref b11)])) rfl rfl (hb hby d4_147)) ?_
                show Go p e below _ (T53.setTop (mkF m 148 _ [(.ref b21)]))
                refine gA (q := 149) X53 hx (hb hby d4_148) rfl rfl rfl ?_
                refine gJ (q := 151) X53 hx (hb hby d4_149) rfl rfl ?_
                refine Go.step (S' := T53.setTop (mkF m 152 #[.val (.int (5 : Int32)), .val (.ref a2), .val (.ref b3), .val (.ref b11), .val (.ref a2), .val (.int ee.length.toInt32), .val (.int (Int32.ofNat kk)), .val (.long (enc (1, 3))), .second, .val (.int (1 : Int32)), .val (.int (3 : Int32))] [(.int (3 : Int32)), (.ref b3), (.int (3 : Int32)), (.ref b3), (.ref b21)])) (fun t k => ?_) ?_
                · jvm_step X53.here [X53.here.top, hx, (hb hby d4_151), Value.category]
                  exact k
                show Go p e below _ (T53.setTop (mkF m 152 _ [(.int (3 : Int32)), (.ref b3), (.int (3 : Int32)), (.ref b3), (.ref b21)]))
                refine Go.step (ldI X53 hx hZ e53 A_b3_53 (j := (3 : Int32)) (by decide) (by decide) (g := (mkF m 152 _ [(.int (3 : Int32)), (.ref b3), (.int (3 : Int32)), (.ref b3), (.ref b21)])) rfl rfl (hb hby d4_152)) ?_
                show Go p e below _ (T53.setTop (mkF m 153 _ [(.int ((degF ee kk) 3)), (.int (3 : Int32)), (.ref b3), (.ref b21)]))
                refine Go.step (S' := T53.setTop (mkF m 154 #[.val (.int (5 : Int32)), .val (.ref a2), .val (.ref b3), .val (.ref b11), .val (.ref a2), .val (.int ee.length.toInt32), .val (.int (Int32.ofNat kk)), .val (.long (enc (1, 3))), .second, .val (.int (1 : Int32)), .val (.int (3 : Int32))] [(.int ((degF ee kk) 3)), (.int (3 : Int32)), (.ref b3), (.int ((degF ee kk) 3)), (.ref b21)])) (fun t k => ?_) ?_
                · jvm_step X53.here [X53.here.top, hx, (hb hby d4_153), Value.category]
                  exact k
                show Go p e below _ (T53.setTop (mkF m 154 _ [(.int ((degF ee kk) 3)), (.int (3 : Int32)), (.ref b3), (.int ((degF ee kk) 3)), (.ref b21)]))
                refine gC (q := 155) (v := 1) X53 hx (hb hby d4_154) rfl rfl ?_
                refine Go.step (fun t k => XS.iadd X53.here hx rfl (hb hby d4_155) rfl k) ?_
                show Go p e below _ (T53.setTop (mkF m 156 _ [(.int (((degF ee kk) 3) + (1 : Int32))), (.int (3 : Int32)), (.ref b3), (.int ((degF ee kk) 3)), (.ref b21)]))
                obtain ⟨cl54, Ar54, in54, -⟩ := A_b3_53.hin (j := (3 : Int32)) (by decide) (by decide)
                obtain ⟨T54, h54, X54, e54, W54, st54⟩ := stI X53 hx hZ e53 Ar54 in54 (g := (mkF m 156 #[.val (.int (5 : Int32)), .val (.ref a2), .val (.ref b3), .val (.ref b11), .val (.ref a2), .val (.int ee.length.toInt32), .val (.int (Int32.ofNat kk)), .val (.long (enc (1, 3))), .second, .val (.int (1 : Int32)), .val (.int (3 : Int32))] [(.int (((degF ee kk) 3) + (1 : Int32))), (.int (3 : Int32)), (.ref b3), (.int ((degF ee kk) 3)), (.ref b21)])) rfl rfl (hb hby d4_156)
                refine Go.step st54 ?_
                have N54 := Fr.snoc X54 N53 g_b3
                have A_a2_54 := A_a2_53.other W54 ne_a2_b3
                have A_b12_54 := A_b12_53.other W54 (Ne.symm ne_b3_b12)
                have A_b18_54 := A_b18_53.other W54 (Ne.symm ne_b3_b18)
                have A_b21_54 := A_b21_53.other W54 (Ne.symm ne_b3_b21)
                have A_b24_54 := A_b24_53.other W54 (Ne.symm ne_b3_b24)
                have A_b11_54 := A_b11_53.other W54 (Ne.symm ne_b3_b11)
                have A_b15_54 := A_b15_53.other W54 (Ne.symm ne_b3_b15)
                have Z54 := Nat.le_trans Z53 (Keep.of_wr W54).1
                have KK54 : Keep h0 h54 [] := KK53.wr W54 (Or.inr sz_b3)
                have A_b3_54 : Ary Z h54 b3 .int 5 (fun i => .int ((upA (upA (degF ee kk) 1 (((degF ee kk) 1) + (1 : Int32))) 3 (((degF ee kk) 3) + (1 : Int32))) i)) := A_b3_53.setI W54 (by decide)
                show Go p e below _ (T54.setTop (mkF m 157 _ [(.int ((degF ee kk) 3)), (.ref b21)]))
                refine gJ (q := 159) X54 hx (hb hby d4_157) rfl rfl ?_
                obtain ⟨cl55, Ar55, in55, -⟩ := A_b21_54.hin (j := ((degF ee kk) 3)) (degB hTen (ltB hkl hq (by decide))).1 (degB hTen (ltB hkl hq (by decide))).2
                obtain ⟨T55, h55, X55, e55, W55, st55⟩ := stI X54 hx hZ e54 Ar55 in55 (g := (mkF m 159 #[.val (.int (5 : Int32)), .val (.ref a2), .val (.ref b3), .val (.ref b11), .val (.ref a2), .val (.int ee.length.toInt32), .val (.int (Int32.ofNat kk)), .val (.long (enc (1, 3))), .second, .val (.int (1 : Int32)), .val (.int (3 : Int32))] [(.int (1 : Int32)), (.int ((degF ee kk) 3)), (.ref b21)])) rfl rfl (hb hby d4_159)
                refine Go.step st55 ?_
                have N55 := Fr.snoc X55 N54 g_b21
                have A_a2_55 := A_a2_54.other W55 ne_a2_b21
                have A_b12_55 := A_b12_54.other W55 ne_b12_b21
                have A_b18_55 := A_b18_54.other W55 ne_b18_b21
                have A_b24_55 := A_b24_54.other W55 (Ne.symm ne_b21_b24)
                have A_b11_55 := A_b11_54.other W55 ne_b11_b21
                have A_b15_55 := A_b15_54.other W55 ne_b15_b21
                have A_b3_55 := A_b3_54.other W55 ne_b3_b21
                have Z55 := Nat.le_trans Z54 (Keep.of_wr W55).1
                have KK55 : Keep h0 h55 [] := KK54.wr W55 (Or.inr sz_b21)
                have A_b21_55 : Ary Z h55 b21 .int (nb ee 3).length (fun i => .int ((upA (rowF (nb (ee.take kk) 3)) ((degF ee kk) 3).toNatClampNeg (1 : Int32)) i)) := A_b21_54.setI W55 (degB hTen (ltB hkl hq (by decide))).2
                show Go p e below _ (T55.setTop (mkF m 160 _ []))
                refine Go.step (fun t k => XS.iinc X55.here hx rfl (hb hby d4_160) rfl (l' := #[.val (.int (5 : Int32)), .val (.ref a2), .val (.ref b3), .val (.ref b11), .val (.ref a2), .val (.int ee.length.toInt32), .val (.int ((Int32.ofNat kk) + (1 : Int32))), .val (.long (enc (1, 3))), .second, .val (.int (1 : Int32)), .val (.int (3 : Int32))]) rfl k) ?_
                show Go p e below _ (T55.setTop (mkF m 163 _ []))
                refine Go.step (fun t k => XS.goto X55.here hx rfl (pc0 := 163) (pc' := 100) rfl (hb hby d4_163) (by decide) (by decide) k) ?_
                show Go p e below _ (T55.setTop (mkF m 100 _ []))
                show Go p e below _ (T55.setTop (mkF m 100 _ []))
                rw [succ32]
                exact ih _ (by omega) (kk + 1) _ (One.val rfl) _ (One.val rfl) _ _ Two.v _ _ _ rfl (by omega) X55 N55 e55 KK55 Z55 A_a2_55 (A_b12_55.congr fun q _ => congrArg Value.int (by rw [nbC hkl hq (by decide) (by decide)])) (A_b15_55.congr fun q _ => congrArg Value.int (rowA hTen hkl hq (by decide) q)) (A_b18_55.congr fun q _ => congrArg Value.int (by rw [nbC hkl hq (by decide) (by decide)])) (A_b21_55.congr fun q _ => congrArg Value.int (rowB hTen hkl hq (by decide) (by decide) q)) (A_b24_55.congr fun q _ => congrArg Value.int (by rw [nbC hkl hq (by decide) (by decide)])) A_b11_55 (A_b3_55.congr fun i _ => congrArg Value.int (degS hkl hq (by decide) i))
              · skip
                show Go p e below _ (T31.setTop (mkF m 128 #[.val (.int (5 : Int32)), .val (.ref a2), .val (.ref b3), .val (.ref b11), .val (.ref a2), .val (.int ee.length.toInt32), .val (.int (Int32.ofNat kk)), .val (.long (enc (1, 4))), .second, .val (.int (1 : Int32)), .val (.int (4 : Int32))] []))
                refine gA (q := 129) X31 hx (hb hby d4_128) rfl rfl rfl ?_
                refine gJ (q := 131) X31 hx (hb hby d4_129) rfl rfl ?_
                refine Go.step (ldR X31 hx hZ e31 A_b11_l27.ary rfl (j := (1 : Int32)) (by decide) (by decide) (g := (mkF m 131 _ [(.int (1 : Int32)), (.ref b11)])) rfl rfl (hb hby d4_131)) ?_
                show Go p e below _ (T31.setTop (mkF m 132 _ [(.ref b15)]))
                refine gA (q := 133) X31 hx (hb hby d4_132) rfl rfl rfl ?_
                refine gJ (q := 135) X31 hx (hb hby d4_133) rfl rfl ?_
                refine Go.step (S' := T31.setTop (mkF m 136 #[.val (.int (5 : Int32)), .val (.ref a2), .val (.ref b3), .val (.ref b11), .val (.ref a2), .val (.int ee.length.toInt32), .val (.int (Int32.ofNat kk)), .val (.long (enc (1, 4))), .second, .val (.int (1 : Int32)), .val (.int (4 : Int32))] [(.int (1 : Int32)), (.ref b3), (.int (1 : Int32)), (.ref b3), (.ref b15)])) (fun t k => ?_) ?_
                · jvm_step X31.here [X31.here.top, hx, (hb hby d4_135), Value.category]
                  exact k
                show Go p e below _ (T31.setTop (mkF m 136 _ [(.int (1 : Int32)), (.ref b3), (.int (1 : Int32)), (.ref b3), (.ref b15)]))
                refine Go.step (ldI X31 hx hZ e31 A_b3_l27 (j := (1 : Int32)) (by decide) (by decide) (g := (mkF m 136 _ [(.int (1 : Int32)), (.ref b3), (.int (1 : Int32)), (.ref b3), (.ref b15)])) rfl rfl (hb hby d4_136)) ?_
                show Go p e below _ (T31.setTop (mkF m 137 _ [(.int ((degF ee kk) 1)), (.int (1 : Int32)), (.ref b3), (.ref b15)]))
                refine Go.step (S' := T31.setTop (mkF m 138 #[.val (.int (5 : Int32)), .val (.ref a2), .val (.ref b3), .val (.ref b11), .val (.ref a2), .val (.int ee.length.toInt32), .val (.int (Int32.ofNat kk)), .val (.long (enc (1, 4))), .second, .val (.int (1 : Int32)), .val (.int (4 : Int32))] [(.int ((degF ee kk) 1)), (.int (1 : Int32)), (.ref b3), (.int ((degF ee kk) 1)), (.ref b15)])) (fun t k => ?_) ?_
                · jvm_step X31.here [X31.here.top, hx, (hb hby d4_137), Value.category]
                  exact k
                show Go p e below _ (T31.setTop (mkF m 138 _ [(.int ((degF ee kk) 1)), (.int (1 : Int32)), (.ref b3), (.int ((degF ee kk) 1)), (.ref b15)]))
                refine gC (q := 139) (v := 1) X31 hx (hb hby d4_138) rfl rfl ?_
                refine Go.step (fun t k => XS.iadd X31.here hx rfl (hb hby d4_139) rfl k) ?_
                show Go p e below _ (T31.setTop (mkF m 140 _ [(.int (((degF ee kk) 1) + (1 : Int32))), (.int (1 : Int32)), (.ref b3), (.int ((degF ee kk) 1)), (.ref b15)]))
                obtain ⟨cl56, Ar56, in56, -⟩ := A_b3_l27.hin (j := (1 : Int32)) (by decide) (by decide)
                obtain ⟨T56, h56, X56, e56, W56, st56⟩ := stI X31 hx hZ e31 Ar56 in56 (g := (mkF m 140 #[.val (.int (5 : Int32)), .val (.ref a2), .val (.ref b3), .val (.ref b11), .val (.ref a2), .val (.int ee.length.toInt32), .val (.int (Int32.ofNat kk)), .val (.long (enc (1, 4))), .second, .val (.int (1 : Int32)), .val (.int (4 : Int32))] [(.int (((degF ee kk) 1) + (1 : Int32))), (.int (1 : Int32)), (.ref b3), (.int ((degF ee kk) 1)), (.ref b15)])) rfl rfl (hb hby d4_140)
                refine Go.step st56 ?_
                have N56 := Fr.snoc X56 N31 g_b3
                have A_a2_56 := A_a2_l27.other W56 ne_a2_b3
                have A_b12_56 := A_b12_l27.other W56 (Ne.symm ne_b3_b12)
                have A_b15_56 := A_b15_l27.other W56 (Ne.symm ne_b3_b15)
                have A_b18_56 := A_b18_l27.other W56 (Ne.symm ne_b3_b18)
                have A_b21_56 := A_b21_l27.other W56 (Ne.symm ne_b3_b21)
                have A_b24_56 := A_b24_l27.other W56 (Ne.symm ne_b3_b24)
                have A_b11_56 := A_b11_l27.other W56 (Ne.symm ne_b3_b11)
                have Z56 := Nat.le_trans Zl27 (Keep.of_wr W56).1
                have KK56 : Keep h0 h56 [] := KKl27.wr W56 (Or.inr sz_b3)
                have A_b3_56 : Ary Z h56 b3 .int 5 (fun i => .int ((upA (degF ee kk) 1 (((degF ee kk) 1) + (1 : Int32))) i)) := A_b3_l27.setI W56 (by decide)
                show Go p e below _ (T56.setTop (mkF m 141 _ [(.int ((degF ee kk) 1)), (.ref b15)]))
                refine gJ (q := 143) X56 hx (hb hby d4_141) rfl rfl ?_
                obtain ⟨cl57, Ar57, in57, -⟩ := A_b15_56.hin (j := ((degF ee kk) 1)) (degB hTen (ltA hkl hq)).1 (degB hTen (ltA hkl hq)).2
                obtain ⟨T57, h57, X57, e57, W57, st57⟩ := stI X56 hx hZ e56 Ar57 in57 (g := (mkF m 143 #[.val (.int (5 : Int32)), .val (.ref a2), .val (.ref b3), .val (.ref b11), .val (.ref a2), .val (.int ee.length.toInt32), .val (.int (Int32.ofNat kk)), .val (.long (enc (1, 4))), .second, .val (.int (1 : Int32)), .val (.int (4 : Int32))] [(.int (4 : Int32)), (.int ((degF ee kk) 1)), (.ref b15)])) rfl rfl (hb hby d4_143)
                refine Go.step st57 ?_
                have N57 := Fr.snoc X57 N56 g_b15
                have A_a2_57 := A_a2_56.other W57 ne_a2_b15
                have A_b12_57 := A_b12_56.other W57 ne_b12_b15
                have A_b18_57 := A_b18_56.other W57 (Ne.symm ne_b15_b18)
                have A_b21_57 := A_b21_56.other W57 (Ne.symm ne_b15_b21)
                have A_b24_57 := A_b24_56.other W57 (Ne.symm ne_b15_b24)
                have A_b11_57 := A_b11_56.other W57 ne_b11_b15
                have A_b3_57 := A_b3_56.other W57 ne_b3_b15
                have Z57 := Nat.le_trans Z56 (Keep.of_wr W57).1
                have KK57 : Keep h0 h57 [] := KK56.wr W57 (Or.inr sz_b15)
                have A_b15_57 : Ary Z h57 b15 .int (nb ee 1).length (fun i => .int ((upA (rowF (nb (ee.take kk) 1)) ((degF ee kk) 1).toNatClampNeg (4 : Int32)) i)) := A_b15_56.setI W57 (degB hTen (ltA hkl hq)).2
                show Go p e below _ (T57.setTop (mkF m 144 _ []))
                refine gA (q := 145) X57 hx (hb hby d4_144) rfl rfl rfl ?_
                refine gJ (q := 147) X57 hx (hb hby d4_145) rfl rfl ?_
                refine Go.step (ldR X57 hx hZ e57 A_b11_57.ary rfl (j := (4 : Int32)) (by decide) (by decide) (g := (mkF m 147 _ [(.int (4 : Int32)), (.ref b11)])) rfl rfl (hb hby d4_147)) ?_
                show Go p e below _ (T57.setTop (mkF m 148 _ [(.ref b24)]))
                refine gA (q := 149) X57 hx (hb hby d4_148) rfl rfl rfl ?_
                refine gJ (q := 151) X57 hx (hb hby d4_149) rfl rfl ?_
                refine Go.step (S' := T57.setTop (mkF m 152 #[.val (.int (5 : Int32)), .val (.ref a2), .val (.ref b3), .val (.ref b11), .val (.ref a2), .val (.int ee.length.toInt32), .val (.int (Int32.ofNat kk)), .val (.long (enc (1, 4))), .second, .val (.int (1 : Int32)), .val (.int (4 : Int32))] [(.int (4 : Int32)), (.ref b3), (.int (4 : Int32)), (.ref b3), (.ref b24)])) (fun t k => ?_) ?_
                · jvm_step X57.here [X57.here.top, hx, (hb hby d4_151), Value.category]
                  exact k
                show Go p e below _ (T57.setTop (mkF m 152 _ [(.int (4 : Int32)), (.ref b3), (.int (4 : Int32)), (.ref b3), (.ref b24)]))
                refine Go.step (ldI X57 hx hZ e57 A_b3_57 (j := (4 : Int32)) (by decide) (by decide) (g := (mkF m 152 _ [(.int (4 : Int32)), (.ref b3), (.int (4 : Int32)), (.ref b3), (.ref b24)])) rfl rfl (hb hby d4_152)) ?_
                show Go p e below _ (T57.setTop (mkF m 153 _ [(.int ((degF ee kk) 4)), (.int (4 : Int32)), (.ref b3), (.ref b24)]))
                refine Go.step (S' := T57.setTop (mkF m 154 #[.val (.int (5 : Int32)), .val (.ref a2), .val (.ref b3), .val (.ref b11), .val (.ref a2), .val (.int ee.length.toInt32), .val (.int (Int32.ofNat kk)), .val (.long (enc (1, 4))), .second, .val (.int (1 : Int32)), .val (.int (4 : Int32))] [(.int ((degF ee kk) 4)), (.int (4 : Int32)), (.ref b3), (.int ((degF ee kk) 4)), (.ref b24)])) (fun t k => ?_) ?_
                · jvm_step X57.here [X57.here.top, hx, (hb hby d4_153), Value.category]
                  exact k
                show Go p e below _ (T57.setTop (mkF m 154 _ [(.int ((degF ee kk) 4)), (.int (4 : Int32)), (.ref b3), (.int ((degF ee kk) 4)), (.ref b24)]))
                refine gC (q := 155) (v := 1) X57 hx (hb hby d4_154) rfl rfl ?_
                refine Go.step (fun t k => XS.iadd X57.here hx rfl (hb hby d4_155) rfl k) ?_
                show Go p e below _ (T57.setTop (mkF m 156 _ [(.int (((degF ee kk) 4) + (1 : Int32))), (.int (4 : Int32)), (.ref b3), (.int ((degF ee kk) 4)), (.ref b24)]))
                obtain ⟨cl58, Ar58, in58, -⟩ := A_b3_57.hin (j := (4 : Int32)) (by decide) (by decide)
                obtain ⟨T58, h58, X58, e58, W58, st58⟩ := stI X57 hx hZ e57 Ar58 in58 (g := (mkF m 156 #[.val (.int (5 : Int32)), .val (.ref a2), .val (.ref b3), .val (.ref b11), .val (.ref a2), .val (.int ee.length.toInt32), .val (.int (Int32.ofNat kk)), .val (.long (enc (1, 4))), .second, .val (.int (1 : Int32)), .val (.int (4 : Int32))] [(.int (((degF ee kk) 4) + (1 : Int32))), (.int (4 : Int32)), (.ref b3), (.int ((degF ee kk) 4)), (.ref b24)])) rfl rfl (hb hby d4_156)
                refine Go.step st58 ?_
                have N58 := Fr.snoc X58 N57 g_b3
                have A_a2_58 := A_a2_57.other W58 ne_a2_b3
                have A_b12_58 := A_b12_57.other W58 (Ne.symm ne_b3_b12)
                have A_b18_58 := A_b18_57.other W58 (Ne.symm ne_b3_b18)
                have A_b21_58 := A_b21_57.other W58 (Ne.symm ne_b3_b21)
                have A_b24_58 := A_b24_57.other W58 (Ne.symm ne_b3_b24)
                have A_b11_58 := A_b11_57.other W58 (Ne.symm ne_b3_b11)
                have A_b15_58 := A_b15_57.other W58 (Ne.symm ne_b3_b15)
                have Z58 := Nat.le_trans Z57 (Keep.of_wr W58).1
                have KK58 : Keep h0 h58 [] := KK57.wr W58 (Or.inr sz_b3)
                have A_b3_58 : Ary Z h58 b3 .int 5 (fun i => .int ((upA (upA (degF ee kk) 1 (((degF ee kk) 1) + (1 : Int32))) 4 (((degF ee kk) 4) + (1 : Int32))) i)) := A_b3_57.setI W58 (by decide)
                show Go p e below _ (T58.setTop (mkF m 157 _ [(.int ((degF ee kk) 4)), (.ref b24)]))
                refine gJ (q := 159) X58 hx (hb hby d4_157) rfl rfl ?_
                obtain ⟨cl59, Ar59, in59, -⟩ := A_b24_58.hin (j := ((degF ee kk) 4)) (degB hTen (ltB hkl hq (by decide))).1 (degB hTen (ltB hkl hq (by decide))).2
                obtain ⟨T59, h59, X59, e59, W59, st59⟩ := stI X58 hx hZ e58 Ar59 in59 (g := (mkF m 159 #[.val (.int (5 : Int32)), .val (.ref a2), .val (.ref b3), .val (.ref b11), .val (.ref a2), .val (.int ee.length.toInt32), .val (.int (Int32.ofNat kk)), .val (.long (enc (1, 4))), .second, .val (.int (1 : Int32)), .val (.int (4 : Int32))] [(.int (1 : Int32)), (.int ((degF ee kk) 4)), (.ref b24)])) rfl rfl (hb hby d4_159)
                refine Go.step st59 ?_
                have N59 := Fr.snoc X59 N58 g_b24
                have A_a2_59 := A_a2_58.other W59 ne_a2_b24
                have A_b12_59 := A_b12_58.other W59 ne_b12_b24
                have A_b18_59 := A_b18_58.other W59 ne_b18_b24
                have A_b21_59 := A_b21_58.other W59 ne_b21_b24
                have A_b11_59 := A_b11_58.other W59 ne_b11_b24
                have A_b15_59 := A_b15_58.other W59 ne_b15_b24
                have A_b3_59 := A_b3_58.other W59 ne_b3_b24
                have Z59 := Nat.le_trans Z58 (Keep.of_wr W59).1
                have KK59 : Keep h0 h59 [] := KK58.wr W59 (Or.inr sz_b24)
                have A_b24_59 : Ary Z h59 b24 .int (nb ee 4).length (fun i => .int ((upA (rowF (nb (ee.take kk) 4)) ((degF ee kk) 4).toNatClampNeg (1 : Int32)) i)) := A_b24_58.setI W59 (degB hTen (ltB hkl hq (by decide))).2
                show Go p e below _ (T59.setTop (mkF m 160 _ []))
                refine Go.step (fun t k => XS.iinc X59.here hx rfl (hb hby d4_160) rfl (l' := #[.val (.int (5 : Int32)), .val (.ref a2), .val (.ref b3), .val (.ref b11), .val (.ref a2), .val (.int ee.length.toInt32), .val (.int ((Int32.ofNat kk) + (1 : Int32))), .val (.long (enc (1, 4))), .second, .val (.int (1 : Int32)), .val (.int (4 : Int32))]) rfl k) ?_
                show Go p e below _ (T59.setTop (mkF m 163 _ []))
                refine Go.step (fun t k => XS.goto X59.here hx rfl (pc0 := 163) (pc' := 100) rfl (hb hby d4_163) (by decide) (by decide) k) ?_
                show Go p e below _ (T59.setTop (mkF m 100 _ []))
                show Go p e below _ (T59.setTop (mkF m 100 _ []))
                rw [succ32]
                exact ih _ (by omega) (kk + 1) _ (One.val rfl) _ (One.val rfl) _ _ Two.v _ _ _ rfl (by omega) X59 N59 e59 KK59 Z59 A_a2_59 (A_b12_59.congr fun q _ => congrArg Value.int (by rw [nbC hkl hq (by decide) (by decide)])) (A_b15_59.congr fun q _ => congrArg Value.int (rowA hTen hkl hq (by decide) q)) (A_b18_59.congr fun q _ => congrArg Value.int (by rw [nbC hkl hq (by decide) (by decide)])) (A_b21_59.congr fun q _ => congrArg Value.int (by rw [nbC hkl hq (by decide) (by decide)])) (A_b24_59.congr fun q _ => congrArg Value.int (rowB hTen hkl hq (by decide) (by decide) q)) A_b11_59 (A_b3_59.congr fun i _ => congrArg Value.int (degS hkl hq (by decide) i))
              · skip
                show Go p e below _ (T31.setTop (mkF m 128 #[.val (.int (5 : Int32)), .val (.ref a2), .val (.ref b3), .val (.ref b11), .val (.ref a2), .val (.int ee.length.toInt32), .val (.int (Int32.ofNat kk)), .val (.long (enc (2, 3))), .second, .val (.int (2 : Int32)), .val (.int (3 : Int32))] []))
                refine gA (q := 129) X31 hx (hb hby d4_128) rfl rfl rfl ?_
                refine gJ (q := 131) X31 hx (hb hby d4_129) rfl rfl ?_
                refine Go.step (ldR X31 hx hZ e31 A_b11_l27.ary rfl (j := (2 : Int32)) (by decide) (by decide) (g := (mkF m 131 _ [(.int (2 : Int32)), (.ref b11)])) rfl rfl (hb hby d4_131)) ?_
                show Go p e below _ (T31.setTop (mkF m 132 _ [(.ref b18)]))
                refine gA (q := 133) X31 hx (hb hby d4_132) rfl rfl rfl ?_
                refine gJ (q := 135) X31 hx (hb hby d4_133) rfl rfl ?_
                refine Go.step (S' := T31.setTop (mkF m 136 #[.val (.int (5 : Int32)), .val (.ref a2), .val (.ref b3), .val (.ref b11), .val (.ref a2), .val (.int ee.length.toInt32), .val (.int (Int32.ofNat kk)), .val (.long (enc (2, 3))), .second, .val (.int (2 : Int32)), .val (.int (3 : Int32))] [(.int (2 : Int32)), (.ref b3), (.int (2 : Int32)), (.ref b3), (.ref b18)])) (fun t k => ?_) ?_
                · jvm_step X31.here [X31.here.top, hx, (hb hby d4_135), Value.category]
                  exact k
                show Go p e below _ (T31.setTop (mkF m 136 _ [(.int (2 : Int32)), (.ref b3), (.int (2 : Int32)), (.ref b3), (.ref b18)]))
                refine Go.step (ldI X31 hx hZ e31 A_b3_l27 (j := (2 : Int32)) (by decide) (by decide) (g := (mkF m 136 _ [(.int (2 : Int32)), (.ref b3), (.int (2 : Int32)), (.ref b3), (.ref b18)])) rfl rfl (hb hby d4_136)) ?_
                show Go p e below _ (T31.setTop (mkF m 137 _ [(.int ((degF ee kk) 2)), (.int (2 : Int32)), (.ref b3), (.ref b18)]))
                refine Go.step (S' := T31.setTop (mkF m 138 #[.val (.int (5 : Int32)), .val (.ref a2), .val (.ref b3), .val (.ref b11), .val (.ref a2), .val (.int ee.length.toInt32), .val (.int (Int32.ofNat kk)), .val (.long (enc (2, 3))), .second, .val (.int (2 : Int32)), .val (.int (3 : Int32))] [(.int ((degF ee kk) 2)), (.int (2 : Int32)), (.ref b3), (.int ((degF ee kk) 2)), (.ref b18)])) (fun t k => ?_) ?_
                · jvm_step X31.here [X31.here.top, hx, (hb hby d4_137), Value.category]
                  exact k
                show Go p e below _ (T31.setTop (mkF m 138 _ [(.int ((degF ee kk) 2)), (.int (2 : Int32)), (.ref b3), (.int ((degF ee kk) 2)), (.ref b18)]))
                refine gC (q := 139) (v := 1) X31 hx (hb hby d4_138) rfl rfl ?_
                refine Go.step (fun t k => XS.iadd X31.here hx rfl (hb hby d4_139) rfl k) ?_
                show Go p e below _ (T31.setTop (mkF m 140 _ [(.int (((degF ee kk) 2) + (1 : Int32))), (.int (2 : Int32)), (.ref b3), (.int ((degF ee kk) 2)), (.ref b18)]))
                obtain ⟨cl60, Ar60, in60, -⟩ := A_b3_l27.hin (j := (2 : Int32)) (by decide) (by decide)
                obtain ⟨T60, h60, X60, e60, W60, st60⟩ := stI X31 hx hZ e31 Ar60 in60 (g := (mkF m 140 #[.val (.int (5 : Int32)), .val (.ref a2), .val (.ref b3), .val (.ref b11), .val (.ref a2), .val (.int ee.length.toInt32), .val (.int (Int32.ofNat kk)), .val (.long (enc (2, 3))), .second, .val (.int (2 : Int32)), .val (.int (3 : Int32))] [(.int (((degF ee kk) 2) + (1 : Int32))), (.int (2 : Int32)), (.ref b3), (.int ((degF ee kk) 2)), (.ref b18)])) rfl rfl (hb hby d4_140)
                refine Go.step st60 ?_
                have N60 := Fr.snoc X60 N31 g_b3
                have A_a2_60 := A_a2_l27.other W60 ne_a2_b3
                have A_b12_60 := A_b12_l27.other W60 (Ne.symm ne_b3_b12)
                have A_b15_60 := A_b15_l27.other W60 (Ne.symm ne_b3_b15)
                have A_b18_60 := A_b18_l27.other W60 (Ne.symm ne_b3_b18)
                have A_b21_60 := A_b21_l27.other W60 (Ne.symm ne_b3_b21)
                have A_b24_60 := A_b24_l27.other W60 (Ne.symm ne_b3_b24)
                have A_b11_60 := A_b11_l27.other W60 (Ne.symm ne_b3_b11)
                have Z60 := Nat.le_trans Zl27 (Keep.of_wr W60).1
                have KK60 : Keep h0 h60 [] := KKl27.wr W60 (Or.inr sz_b3)
                have A_b3_60 : Ary Z h60 b3 .int 5 (fun i => .int ((upA (degF ee kk) 2 (((degF ee kk) 2) + (1 : Int32))) i)) := A_b3_l27.setI W60 (by decide)
                show Go p e below _ (T60.setTop (mkF m 141 _ [(.int ((degF ee kk) 2)), (.ref b18)]))
                refine gJ (q := 143) X60 hx (hb hby d4_141) rfl rfl ?_
                obtain ⟨cl61, Ar61, in61, -⟩ := A_b18_60.hin (j := ((degF ee kk) 2)) (degB hTen (ltA hkl hq)).1 (degB hTen (ltA hkl hq)).2
                obtain ⟨T61, h61, X61, e61, W61, st61⟩ := stI X60 hx hZ e60 Ar61 in61 (g := (mkF m 143 #[.val (.int (5 : Int32)), .val (.ref a2), .val (.ref b3), .val (.ref b11), .val (.ref a2), .val (.int ee.length.toInt32), .val (.int (Int32.ofNat kk)), .val (.long (enc (2, 3))), .second, .val (.int (2 : Int32)), .val (.int (3 : Int32))] [(.int (3 : Int32)), (.int ((degF ee kk) 2)), (.ref b18)])) rfl rfl (hb hby d4_143)
                refine Go.step st61 ?_
                have N61 := Fr.snoc X61 N60 g_b18
                have A_a2_61 := A_a2_60.other W61 ne_a2_b18
                have A_b12_61 := A_b12_60.other W61 ne_b12_b18
                have A_b15_61 := A_b15_60.other W61 ne_b15_b18
                have A_b21_61 := A_b21_60.other W61 (Ne.symm ne_b18_b21)
                have A_b24_61 := A_b24_60.other W61 (Ne.symm ne_b18_b24)
                have A_b11_61 := A_b11_60.other W61 ne_b11_b18
                have A_b3_61 := A_b3_60.other W61 ne_b3_b18
                have Z61 := Nat.le_trans Z60 (Keep.of_wr W61).1
                have KK61 : Keep h0 h61 [] := KK60.wr W61 (Or.inr sz_b18)
                have A_b18_61 : Ary Z h61 b18 .int (nb ee 2).length (fun i => .int ((upA (rowF (nb (ee.take kk) 2)) ((degF ee kk) 2).toNatClampNeg (3 : Int32)) i)) := A_b18_60.setI W61 (degB hTen (ltA hkl hq)).2
                show Go p e below _ (T61.setTop (mkF m 144 _ []))
                refine gA (q := 145) X61 hx (hb hby d4_144) rfl rfl rfl ?_
                refine gJ (q := 147) X61 hx (hb hby d4_145) rfl rfl ?_
                refine Go.step (ldR X61 hx hZ e61 A_b11_61.ary rfl (j := (3 : Int32)) (by decide) (by decide) (g := (mkF m 147 _ [(.int (3 : Int32)), (.ref b11)])) rfl rfl (hb hby d4_147)) ?_
                show Go p e below _ (T61.setTop (mkF m 148 _ [(.ref b21)]))
                refine gA (q := 149) X61 hx (hb hby d4_148) rfl rfl rfl ?_
                refine gJ (q := 151) X61 hx (hb hby d4_149) rfl rfl ?_
                refine Go.step (S' := T61.setTop (mkF m 152 #[.val (.int (5 : Int32)), .val (.ref a2), .val (.ref b3), .val (.ref b11), .val (.ref a2), .val (.int ee.length.toInt32), .val (.int (Int32.ofNat kk)), .val (.long (enc (2, 3))), .second, .val (.int (2 : Int32)), .val (.int (3 : Int32))] [(.int (3 : Int32)), (.ref b3), (.int (3 : Int32)), (.ref b3), (.ref b21)])) (fun t k => ?_) ?_
                · jvm_step X61.here [X61.here.top, hx, (hb hby d4_151), Value.category]
                  exact k
                show Go p e below _ (T61.setTop (mkF m 152 _ [(.int (3 : Int32)), (.ref b3), (.int (3 : Int32)), (.ref b3), (.ref b21)]))
                refine Go.step (ldI X61 hx hZ e61 A_b3_61 (j := (3 : Int32)) (by decide) (by decide) (g := (mkF m 152 _ [(.int (3 : Int32)), (.ref b3), (.int (3 : Int32)), (.ref b3), (.ref b21)])) rfl rfl (hb hby d4_152)) ?_
                show Go p e below _ (T61.setTop (mkF m 153 _ [(.int ((degF ee kk) 3)), (.int (3 : Int32)), (.ref b3), (.ref b21)]))
                refine Go.step (S' := T61.setTop (mkF m 154 #[.val (.int (5 : Int32)), .val (.ref a2), .val (.ref b3), .val (.ref b11), .val (.ref a2), .val (.int ee.length.toInt32), .val (.int (Int32.ofNat kk)), .val (.long (enc (2, 3))), .second, .val (.int (2 : Int32)), .val (.int (3 : Int32))] [(.int ((degF ee kk) 3)), (.int (3 : Int32)), (.ref b3), (.int ((degF ee kk) 3)), (.ref b21)])) (fun t k => ?_) ?_
                · jvm_step X61.here [X61.here.top, hx, (hb hby d4_153), Value.category]
                  exact k
                show Go p e below _ (T61.setTop (mkF m 154 _ [(.int ((degF ee kk) 3)), (.int (3 : Int32)), (.ref b3), (.int ((degF ee kk) 3)), (.ref b21)]))
                refine gC (q := 155) (v := 1) X61 hx (hb hby d4_154) rfl rfl ?_
                refine Go.step (fun t k => XS.iadd X61.here hx rfl (hb hby d4_155) rfl k) ?_
                show Go p e below _ (T61.setTop (mkF m 156 _ [(.int (((degF ee kk) 3) + (1 : Int32))), (.int (3 : Int32)), (.ref b3), (.int ((degF ee kk) 3)), (.ref b21)]))
                obtain ⟨cl62, Ar62, in62, -⟩ := A_b3_61.hin (j := (3 : Int32)) (by decide) (by decide)
                obtain ⟨T62, h62, X62, e62, W62, st62⟩ := stI X61 hx hZ e61 Ar62 in62 (g := (mkF m 156 #[.val (.int (5 : Int32)), .val (.ref a2), .val (.ref b3), .val (.ref b11), .val (.ref a2), .val (.int ee.length.toInt32), .val (.int (Int32.ofNat kk)), .val (.long (enc (2, 3))), .second, .val (.int (2 : Int32)), .val (.int (3 : Int32))] [(.int (((degF ee kk) 3) + (1 : Int32))), (.int (3 : Int32)), (.ref b3), (.int ((degF ee kk) 3)), (.ref b21)])) rfl rfl (hb hby d4_156)
                refine Go.step st62 ?_
                have N62 := Fr.snoc X62 N61 g_b3
                have A_a2_62 := A_a2_61.other W62 ne_a2_b3
                have A_b12_62 := A_b12_61.other W62 (Ne.symm ne_b3_b12)
                have A_b15_62 := A_b15_61.other W62 (Ne.symm ne_b3_b15)
                have A_b21_62 := A_b21_61.other W62 (Ne.symm ne_b3_b21)
                have A_b24_62 := A_b24_61.other W62 (Ne.symm ne_b3_b24)
                have A_b11_62 := A_b11_61.other W62 (Ne.symm ne_b3_b11)
                have A_b18_62 := A_b18_61.other W62 (Ne.symm ne_b3_b18)
                have Z62 := Nat.le_trans Z61 (Keep.of_wr W62).1
                have KK62 : Keep h0 h62 [] := KK61.wr W62 (Or.inr sz_b3)
                have A_b3_62 : Ary Z h62 b3 .int 5 (fun i => .int ((upA (upA (degF ee kk) 2 (((degF ee kk) 2) + (1 : Int32))) 3 (((degF ee kk) 3) + (1 : Int32))) i)) := A_b3_61.setI W62 (by decide)
                show Go p e below _ (T62.setTop (mkF m 157 _ [(.int ((degF ee kk) 3)), (.ref b21)]))
                refine gJ (q := 159) X62 hx (hb hby d4_157) rfl rfl ?_
                obtain ⟨cl63, Ar63, in63, -⟩ := A_b21_62.hin (j := ((degF ee kk) 3)) (degB hTen (ltB hkl hq (by decide))).1 (degB hTen (ltB hkl hq (by decide))).2
                obtain ⟨T63, h63, X63, e63, W63, st63⟩ := stI X62 hx hZ e62 Ar63 in63 (g := (mkF m 159 #[.val (.int (5 : Int32)), .val (.ref a2), .val (.ref b3), .val (.ref b11), .val (.ref a2), .val (.int ee.length.toInt32), .val (.int (Int32.ofNat kk)), .val (.long (enc (2, 3))), .second, .val (.int (2 : Int32)), .val (.int (3 : Int32))] [(.int (2 : Int32)), (.int ((degF ee kk) 3)), (.ref b21)])) rfl rfl (hb hby d4_159)
                refine Go.step st63 ?_
                have N63 := Fr.snoc X63 N62 g_b21
                have A_a2_63 := A_a2_62.other W63 ne_a2_b21
                have A_b12_63 := A_b12_62.other W63 ne_b12_b21
                have A_b15_63 := A_b15_62.other W63 ne_b15_b21
                have A_b24_63 := A_b24_62.other W63 (Ne.symm ne_b21_b24)
                have A_b11_63 := A_b11_62.other W63 ne_b11_b21
                have A_b18_63 := A_b18_62.other W63 ne_b18_b21
                have A_b3_63 := A_b3_62.other W63 ne_b3_b21
                have Z63 := Nat.le_trans Z62 (Keep.of_wr W63).1
                have KK63 : Keep h0 h63 [] := KK62.wr W63 (Or.inr sz_b21)
                have A_b21_63 : Ary Z h63 b21 .int (nb ee 3).length (fun i => .int ((upA (rowF (nb (ee.take kk) 3)) ((degF ee kk) 3).toNatClampNeg (2 : Int32)) i)) := A_b21_62.setI W63 (degB hTen (ltB hkl hq (by decide))).2
                show Go p e below _ (T63.setTop (mkF m 160 _ []))
                refine Go.step (fun t k => XS.iinc X63.here hx rfl (hb hby d4_160) rfl (l' := #[.val (.int (5 : Int32)), .val (.ref a2), .val (.ref b3), .val (.ref b11), .val (.ref a2), .val (.int ee.length.toInt32), .val (.int ((Int32.ofNat kk) + (1 : Int32))), .val (.long (enc (2, 3))), .second, .val (.int (2 : Int32)), .val (.int (3 : Int32))]) rfl k) ?_
                show Go p e below _ (T63.setTop (mkF m 163 _ []))
                refine Go.step (fun t k => XS.goto X63.here hx rfl (pc0 := 163) (pc' := 100) rfl (hb hby d4_163) (by decide) (by decide) k) ?_
                show Go p e below _ (T63.setTop (mkF m 100 _ []))
                show Go p e below _ (T63.setTop (mkF m 100 _ []))
                rw [succ32]
                exact ih _ (by omega) (kk + 1) _ (One.val rfl) _ (One.val rfl) _ _ Two.v _ _ _ rfl (by omega) X63 N63 e63 KK63 Z63 A_a2_63 (A_b12_63.congr fun q _ => congrArg Value.int (by rw [nbC hkl hq (by decide) (by decide)])) (A_b15_63.congr fun q _ => congrArg Value.int (by rw [nbC hkl hq (by decide) (by decide)])) (A_b18_63.congr fun q _ => congrArg Value.int (rowA hTen hkl hq (by decide) q)) (A_b21_63.congr fun q _ => congrArg Value.int (rowB hTen hkl hq (by decide) (by decide) q)) (A_b24_63.congr fun q _ => congrArg Value.int (by rw [nbC hkl hq (by decide) (by decide)])) A_b11_63 (A_b3_63.congr fun i _ => congrArg Value.int (degS hkl hq (by decide) i))
              · skip
                show Go p e below _ (T31.setTop (mkF m 128 #[.val (.int (5 : Int32)), .val (.ref a2), .val (.ref b3), .val (.ref b11), .val (.ref a2), .val (.int ee.length.toInt32), .val (.int (Int32.ofNat kk)), .val (.long (enc (2, 4))), .second, .val (.int (2 : Int32)), .val (.int (4 : Int32))] []))
                refine gA (q := 129) X31 hx (hb hby d4_128) rfl rfl rfl ?_
                refine gJ (q := 131) X31 hx (hb hby d4_129) rfl rfl ?_
                refine Go.step (ldR X31 hx hZ e31 A_b11_l27.ary rfl (j := (2 : Int32)) (by decide) (by decide) (g := (mkF m 131 _ [(.int (2 : Int32)), (.ref b11)])) rfl rfl (hb hby d4_131)) ?_
                show Go p e below _ (T31.setTop (mkF m 132 _ [(.ref b18)]))
                refine gA (q := 133) X31 hx (hb hby d4_132) rfl rfl rfl ?_
                refine gJ (q := 135) X31 hx (hb hby d4_133) rfl rfl ?_
                refine Go.step (S' := T31.setTop (mkF m 136 #[.val (.int (5 : Int32)), .val (.ref a2), .val (.ref b3), .val (.ref b11), .val (.ref a2), .val (.int ee.length.toInt32), .val (.int (Int32.ofNat kk)), .val (.long (enc (2, 4))), .second, .val (.int (2 : Int32)), .val (.int (4 : Int32))] [(.int (2 : Int32)), (.ref b3), (.int (2 : Int32)), (.ref b3), (.ref b18)])) (fun t k => ?_) ?_
                · jvm_step X31.here [X31.here.top, hx, (hb hby d4_135), Value.category]
                  exact k
                show Go p e below _ (T31.setTop (mkF m 136 _ [(.int (2 : Int32)), (.ref b3), (.int (2 : Int32)), (.ref b3), (.ref b18)]))
                refine Go.step (ldI X31 hx hZ e31 A_b3_l27 (j := (2 : Int32)) (by decide) (by decide) (g := (mkF m 136 _ [(.int (2 : Int32)), (.ref b3), (.int (2 : Int32)), (.ref b3), (.ref b18)])) rfl rfl (hb hby d4_136)) ?_
                show Go p e below _ (T31.setTop (mkF m 137 _ [(.int ((degF ee kk) 2)), (.int (2 : Int32)), (.ref b3), (.ref b18)]))
                refine Go.step (S' := T31.setTop (mkF m 138 #[.val (.int (5 : Int32)), .val (.ref a2), .val (.ref b3), .val (.ref b11), .val (.ref a2), .val (.int ee.length.toInt32), .val (.int (Int32.ofNat kk)), .val (.long (enc (2, 4))), .second, .val (.int (2 : Int32)), .val (.int (4 : Int32))] [(.int ((degF ee kk) 2)), (.int (2 : Int32)), (.ref b3), (.int ((degF ee kk) 2)), (.ref b18)])) (fun t k => ?_) ?_
                · jvm_step X31.here [X31.here.top, hx, (hb hby d4_137), Value.category]
                  exact k
                show Go p e below _ (T31.setTop (mkF m 138 _ [(.int ((degF ee kk) 2)), (.int (2 : Int32)), (.ref b3), (.int ((degF ee kk) 2)), (.ref b18)]))
                refine gC (q := 139) (v := 1) X31 hx (hb hby d4_138) rfl rfl ?_
                refine Go.step (fun t k => XS.iadd X31.here hx rfl (hb hby d4_139) rfl k) ?_
                show Go p e below _ (T31.setTop (mkF m 140 _ [(.int (((degF ee kk) 2) + (1 : Int32))), (.int (2 : Int32)), (.ref b3), (.int ((degF ee kk) 2)), (.ref b18)]))
                obtain ⟨cl64, Ar64, in64, -⟩ := A_b3_l27.hin (j := (2 : Int32)) (by decide) (by decide)
                obtain ⟨T64, h64, X64, e64, W64, st64⟩ := stI X31 hx hZ e31 Ar64 in64 (g := (mkF m 140 #[.val (.int (5 : Int32)), .val (.ref a2), .val (.ref b3), .val (.ref b11), .val (.ref a2), .val (.int ee.length.toInt32), .val (.int (Int32.ofNat kk)), .val (.long (enc (2, 4))), .second, .val (.int (2 : Int32)), .val (.int (4 : Int32))] [(.int (((degF ee kk) 2) + (1 : Int32))), (.int (2 : Int32)), (.ref b3), (.int ((degF ee kk) 2)), (.ref b18)])) rfl rfl (hb hby d4_140)
                refine Go.step st64 ?_
                have N64 := Fr.snoc X64 N31 g_b3
                have A_a2_64 := A_a2_l27.other W64 ne_a2_b3
                have A_b12_64 := A_b12_l27.other W64 (Ne.symm ne_b3_b12)
                have A_b15_64 := A_b15_l27.other W64 (Ne.symm ne_b3_b15)
                have A_b18_64 := A_b18_l27.other W64 (Ne.symm ne_b3_b18)
                have A_b21_64 := A_b21_l27.other W64 (Ne.symm ne_b3_b21)
                have A_b24_64 := A_b24_l27.other W64 (Ne.symm ne_b3_b24)
                have A_b11_64 := A_b11_l27.other W64 (Ne.symm ne_b3_b11)
                have Z64 := Nat.le_trans Zl27 (Keep.of_wr W64).1
                have KK64 : Keep h0 h64 [] := KKl27.wr W64 (Or.inr sz_b3)
                have A_b3_64 : Ary Z h64 b3 .int 5 (fun i => .int ((upA (degF ee kk) 2 (((degF ee kk) 2) + (1 : Int32))) i)) := A_b3_l27.setI W64 (by decide)
                show Go p e below _ (T64.setTop (mkF m 141 _ [(.int ((degF ee kk) 2)), (.ref b18)]))
                refine gJ (q := 143) X64 hx (hb hby d4_141) rfl rfl ?_
                obtain ⟨cl65, Ar65, in65, -⟩ := A_b18_64.hin (j := ((degF ee kk) 2)) (degB hTen (ltA hkl hq)).1 (degB hTen (ltA hkl hq)).2
                obtain ⟨T65, h65, X65, e65, W65, st65⟩ := stI X64 hx hZ e64 Ar65 in65 (g := (mkF m 143 #[.val (.int (5 : Int32)), .val (.ref a2), .val (.ref b3), .val (.ref b11), .val (.ref a2), .val (.int ee.length.toInt32), .val (.int (Int32.ofNat kk)), .val (.long (enc (2, 4))), .second, .val (.int (2 : Int32)), .val (.int (4 : Int32))] [(.int (4 : Int32)), (.int ((degF ee kk) 2)), (.ref b18)])) rfl rfl (hb hby d4_143)
                refine Go.step st65 ?_
                have N65 := Fr.snoc X65 N64 g_b18
                have A_a2_65 := A_a2_64.other W65 ne_a2_b18
                have A_b12_65 := A_b12_64.other W65 ne_b12_b18
                have A_b15_65 := A_b15_64.other W65 ne_b15_b18
                have A_b21_65 := A_b21_64.other W65 (Ne.symm ne_b18_b21)
                have A_b24_65 := A_b24_64.other W65 (Ne.symm ne_b18_b24)
                have A_b11_65 := A_b11_64.other W65 ne_b11_b18
                have A_b3_65 := A_b3_64.other W65 ne_b3_b18
                have Z65 := Nat.le_trans Z64 (Keep.of_wr W65).1
                have KK65 : Keep h0 h65 [] := KK64.wr W65 (Or.inr sz_b18)
                have A_b18_65 : Ary Z h65 b18 .int (nb ee 2).length (fun i => .int ((upA (rowF (nb (ee.take kk) 2)) ((degF ee kk) 2).toNatClampNeg (4 : Int32)) i)) := A_b18_64.setI W65 (degB hTen (ltA hkl hq)).2
                show Go p e below _ (T65.setTop (mkF m 144 _ []))
                refine gA (q := 145) X65 hx (hb hby d4_144) rfl rfl rfl ?_
                refine gJ (q := 147) X65 hx (hb hby d4_145) rfl rfl ?_
                refine Go.step (ldR X65 hx hZ e65 A_b11_65.ary rfl (j := (4 : Int32)) (by decide) (by decide) (g := (mkF m 147 _ [(.int (4 : Int32)), (.ref b11)])) rfl rfl (hb hby d4_147)) ?_
                show Go p e below _ (T65.setTop (mkF m 148 _ [(.ref b24)]))
                refine gA (q := 149) X65 hx (hb hby d4_148) rfl rfl rfl ?_
                refine gJ (q := 151) X65 hx (hb hby d4_149) rfl rfl ?_
                refine Go.step (S' := T65.setTop (mkF m 152 #[.val (.int (5 : Int32)), .val (.ref a2), .val (.ref b3), .val (.ref b11), .val (.ref a2), .val (.int ee.length.toInt32), .val (.int (Int32.ofNat kk)), .val (.long (enc (2, 4))), .second, .val (.int (2 : Int32)), .val (.int (4 : Int32))] [(.int (4 : Int32)), (.ref b3), (.int (4 : Int32)), (.ref b3), (.ref b24)])) (fun t k => ?_) ?_
                · jvm_step X65.here [X65.here.top, hx, (hb hby d4_151), Value.category]
                  exact k
                show Go p e below _ (T65.setTop (mkF m 152 _ [(.int (4 : Int32)), (.ref b3), (.int (4 : Int32)), (.ref b3), (.ref b24)]))
                refine Go.step (ldI X65 hx hZ e65 A_b3_65 (j := (4 : Int32)) (by decide) (by decide) (g := (mkF m 152 _ [(.int (4 : Int32)), (.ref b3), (.int (4 : Int32)), (.ref b3), (.ref b24)])) rfl rfl (hb hby d4_152)) ?_
                show Go p e below _ (T65.setTop (mkF m 153 _ [(.int ((degF ee kk) 4)), (.int (4 : Int32)), (.ref b3), (.ref b24)]))
                refine Go.step (S' := T65.setTop (mkF m 154 #[.val (.int (5 : Int32)), .val (.ref a2), .val (.ref b3), .val (.ref b11), .val (.ref a2), .val (.int ee.length.toInt32), .val (.int (Int32.ofNat kk)), .val (.long (enc (2, 4))), .second, .val (.int (2 : Int32)), .val (.int (4 : Int32))] [(.int ((degF ee kk) 4)), (.int (4 : Int32)), (.ref b3), (.int ((degF ee kk) 4)), (.ref b24)])) (fun t k => ?_) ?_
                · jvm_step X65.here [X65.here.top, hx, (hb hby d4_153), Value.category]
                  exact k
                show Go p e below _ (T65.setTop (mkF m 154 _ [(.int ((degF ee kk) 4)), (.int (4 : Int32)), (.ref b3), (.int ((degF ee kk) 4)), (.ref b24)]))
                refine gC (q := 155) (v := 1) X65 hx (hb hby d4_154) rfl rfl ?_
                refine Go.step (fun t k => XS.iadd X65.here hx rfl (hb hby d4_155) rfl k) ?_
                show Go p e below _ (T65.setTop (mkF m 156 _ [(.int (((degF ee kk) 4) + (1 : Int32))), (.int (4 : Int32)), (.ref b3), (.int ((degF ee kk) 4)), (.ref b24)]))
                obtain ⟨cl66, Ar66, in66, -⟩ := A_b3_65.hin (j := (4 : Int32)) (by decide) (by decide)
                obtain ⟨T66, h66, X66, e66, W66, st66⟩ := stI X65 hx hZ e65 Ar66 in66 (g := (mkF m 156 #[.val (.int (5 : Int32)), .val (.ref a2), .val (.ref b3), .val (.ref b11), .val (.ref a2), .val (.int ee.length.toInt32), .val (.int (Int32.ofNat kk)), .val (.long (enc (2, 4))), .second, .val (.int (2 : Int32)), .val (.int (4 : Int32))] [(.int (((degF ee kk) 4) + (1 : Int32))), (.int (4 : Int32)), (.ref b3), (.int ((degF ee kk) 4)), (.ref b24)])) rfl rfl (hb hby d4_156)
                refine Go.step st66 ?_
                have N66 := Fr.snoc X66 N65 g_b3
                have A_a2_66 := A_a2_65.other W66 ne_a2_b3
                have A_b12_66 := A_b12_65.other W66 (Ne.symm ne_b3_b12)
                have A_b15_66 := A_b15_65.other W66 (Ne.symm ne_b3_b15)
                have A_b21_66 := A_b21_65.other W66 (Ne.symm ne_b3_b21)
                have A_b24_66 := A_b24_65.other W66 (Ne.symm ne_b3_b24)
                have A_b11_66 := A_b11_65.other W66 (Ne.symm ne_b3_b11)
                have A_b18_66 := A_b18_65.other W66 (Ne.symm ne_b3_b18)
                have Z66 := Nat.le_trans Z65 (Keep.of_wr W66).1
                have KK66 : Keep h0 h66 [] := KK65.wr W66 (Or.inr sz_b3)
                have A_b3_66 : Ary Z h66 b3 .int 5 (fun i => .int ((upA (upA (degF ee kk) 2 (((degF ee kk) 2) + (1 : Int32))) 4 (((degF ee kk) 4) + (1 : Int32))) i)) := A_b3_65.setI W66 (by decide)
                show Go p e below _ (T66.setTop (mkF m 157 _ [(.int ((degF ee kk) 4)), (.ref b24)]))
                refine gJ (q := 159) X66 hx (hb hby d4_157) rfl rfl ?_
                obtain ⟨cl67, Ar67, in67, -⟩ := A_b24_66.hin (j := ((degF ee kk) 4)) (degB hTen (ltB hkl hq (by decide))).1 (degB hTen (ltB hkl hq (by decide))).2
                obtain ⟨T67, h67, X67, e67, W67, st67⟩ := stI X66 hx hZ e66 Ar67 in67 (g := (mkF m 159 #[.val (.int (5 : Int32)), .val (.ref a2), .val (.ref b3), .val (.ref b11), .val (.ref a2), .val (.int ee.length.toInt32), .val (.int (Int32.ofNat kk)), .val (.long (enc (2, 4))), .second, .val (.int (2 : Int32)), .val (.int (4 : Int32))] [(.int (2 : Int32)), (.int ((degF ee kk) 4)), (.ref b24)])) rfl rfl (hb hby d4_159)
                refine Go.step st67 ?_
                have N67 := Fr.snoc X67 N66 g_b24
                have A_a2_67 := A_a2_66.other W67 ne_a2_b24
                have A_b12_67 := A_b12_66.other W67 ne_b12_b24
                have A_b15_67 := A_b15_66.other W67 ne_b15_b24
                have A_b21_67 := A_b21_66.other W67 ne_b21_b24
                have A_b11_67 := A_b11_66.other W67 ne_b11_b24
                have A_b18_67 := A_b18_66.other W67 ne_b18_b24
                have A_b3_67 := A_b3_66.other W67 ne_b3_b24
                have Z67 := Nat.le_trans Z66 (Keep.of_wr W67).1
                have KK67 : Keep h0 h67 [] := KK66.wr W67 (Or.inr sz_b24)
                have A_b24_67 : Ary Z h67 b24 .int (nb ee 4).length (fun i => .int ((upA (rowF (nb (ee.take kk) 4)) ((degF ee kk) 4).toNatClampNeg (2 : Int32)) i)) := A_b24_66.setI W67 (degB hTen (ltB hkl hq (by decide))).2
                show Go p e below _ (T67.setTop (mkF m 160 _ []))
                refine Go.step (fun t k => XS.iinc X67.here hx rfl (hb hby d4_160) rfl (l' := #[.val (.int (5 : Int32)), .val (.ref a2), .val (.ref b3), .val (.ref b11), .val (.ref a2), .val (.int ee.length.toInt32), .val (.int ((Int32.ofNat kk) + (1 : Int32))), .val (.long (enc (2, 4))), .second, .val (.int (2 : Int32)), .val (.int (4 : Int32))]) rfl k) ?_
                show Go p e below _ (T67.setTop (mkF m 163 _ []))
                refine Go.step (fun t k => XS.goto X67.here hx rfl (pc0 := 163) (pc' := 100) rfl (hb hby d4_163) (by decide) (by decide) k) ?_
                show Go p e below _ (T67.setTop (mkF m 100 _ []))
                show Go p e below _ (T67.setTop (mkF m 100 _ []))
                rw [succ32]
                exact ih _ (by omega) (kk + 1) _ (One.val rfl) _ (One.val rfl) _ _ Two.v _ _ _ rfl (by omega) X67 N67 e67 KK67 Z67 A_a2_67 (A_b12_67.congr fun q _ => congrArg Value.int (by rw [nbC hkl hq (by decide) (by decide)])) (A_b15_67.congr fun q _ => congrArg Value.int (by rw [nbC hkl hq (by decide) (by decide)])) (A_b18_67.congr fun q _ => congrArg Value.int (rowA hTen hkl hq (by decide) q)) (A_b21_67.congr fun q _ => congrArg Value.int (by rw [nbC hkl hq (by decide) (by decide)])) (A_b24_67.congr fun q _ => congrArg Value.int (rowB hTen hkl hq (by decide) (by decide) q)) A_b11_67 (A_b3_67.congr fun i _ => congrArg Value.int (degS hkl hq (by decide) i))
              · skip
                show Go p e below _ (T31.setTop (mkF m 128 #[.val (.int (5 : Int32)), .val (.ref a2), .val (.ref b3), .val (.ref b11), .val (.ref a2), .val (.int ee.length.toInt32), .val (.int (Int32.ofNat kk)), .val (.long (enc (3, 4))), .second, .val (.int (3 : Int32)), .val (.int (4 : Int32))] []))
                refine gA (q := 129) X31 hx (hb hby d4_128) rfl rfl rfl ?_
                refine gJ (q := 131) X31 hx (hb hby d4_129) rfl rfl ?_
                refine Go.step (ldR X31 hx hZ e31 A_b11_l27.ary rfl (j := (3 : Int32)) (by decide) (by decide) (g := (mkF m 131 _ [(.int (3 : Int32)), (.ref b11)])) rfl rfl (hb hby d4_131)) ?_
                show Go p e below _ (T31.setTop (mkF m 132 _ [(.ref b21)]))
                refine gA (q := 133) X31 hx (hb hby d4_132) rfl rfl rfl ?_
                refine gJ (q := 135) X31 hx (hb hby d4_133) rfl rfl ?_
                refine Go.step (S' := T31.setTop (mkF m 136 #[.val (.int (5 : Int32)), .val (.ref a2), .val (.ref b3), .val (.ref b11), .val (.ref a2), .val (.int ee.length.toInt32), .val (.int (Int32.ofNat kk)), .val (.long (enc (3, 4))), .second, .val (.int (3 : Int32)), .val (.int (4 : Int32))] [(.int (3 : Int32)), (.ref b3), (.int (3 : Int32)), (.ref b3), (.ref b21)])) (fun t k => ?_) ?_
                · jvm_step X31.here [X31.here.top, hx, (hb hby d4_135), Value.category]
                  exact k
                show Go p e below _ (T31.setTop (mkF m 136 _ [(.int (3 : Int32)), (.ref b3), (.int (3 : Int32)), (.ref b3), (.ref b21)]))
                refine Go.step (ldI X31 hx hZ e31 A_b3_l27 (j := (3 : Int32)) (by decide) (by decide) (g := (mkF m 136 _ [(.int (3 : Int32)), (.ref b3), (.int (3 : Int32)), (.ref b3), (.ref b21)])) rfl rfl (hb hby d4_136)) ?_
                show Go p e below _ (T31.setTop (mkF m 137 _ [(.int ((degF ee kk) 3)), (.int (3 : Int32)), (.ref b3), (.ref b21)]))
                refine Go.step (S' := T31.setTop (mkF m 138 #[.val (.int (5 : Int32)), .val (.ref a2), .val (.ref b3), .val (.ref b11), .val (.ref a2), .val (.int ee.length.toInt32), .val (.int (Int32.ofNat kk)), .val (.long (enc (3, 4))), .second, .val (.int (3 : Int32)), .val (.int (4 : Int32))] [(.int ((degF ee kk) 3)), (.int (3 : Int32)), (.ref b3), (.int ((degF ee kk) 3)), (.ref b21)])) (fun t k => ?_) ?_
                · jvm_step X31.here [X31.here.top, hx, (hb hby d4_137), Value.category]
                  exact k
                show Go p e below _ (T31.setTop (mkF m 138 _ [(.int ((degF ee kk) 3)), (.int (3 : Int32)), (.ref b3), (.int ((degF ee kk) 3)), (.ref b21)]))
                refine gC (q := 139) (v := 1) X31 hx (hb hby d4_138) rfl rfl ?_
                refine Go.step (fun t k => XS.iadd X31.here hx rfl (hb hby d4_139) rfl k) ?_
                show Go p e below _ (T31.setTop (mkF m 140 _ [(.int (((degF ee kk) 3) + (1 : Int32))), (.int (3 : Int32)), (.ref b3), (.int ((degF ee kk) 3)), (.ref b21)]))
                obtain ⟨cl68, Ar68, in68, -⟩ := A_b3_l27.hin (j := (3 : Int32)) (by decide) (by decide)
                obtain ⟨T68, h68, X68, e68, W68, st68⟩ := stI X31 hx hZ e31 Ar68 in68 (g := (mkF m 140 #[.val (.int (5 : Int32)), .val (.ref a2), .val (.ref b3), .val (.ref b11), .val (.ref a2), .val (.int ee.length.toInt32), .val (.int (Int32.ofNat kk)), .val (.long (enc (3, 4))), .second, .val (.int (3 : Int32)), .val (.int (4 : Int32))] [(.int (((degF ee kk) 3) + (1 : Int32))), (.int (3 : Int32)), (.ref b3), (.int ((degF ee kk) 3)), (.ref b21)])) rfl rfl (hb hby d4_140)
                refine Go.step st68 ?_
                have N68 := Fr.snoc X68 N31 g_b3
                have A_a2_68 := A_a2_l27.other W68 ne_a2_b3
                have A_b12_68 := A_b12_l27.other W68 (Ne.symm ne_b3_b12)
                have A_b15_68 := A_b15_l27.other W68 (Ne.symm ne_b3_b15)
                have A_b18_68 := A_b18_l27.other W68 (Ne.symm ne_b3_b18)
                have A_b21_68 := A_b21_l27.other W68 (Ne.symm ne_b3_b21)
                have A_b24_68 := A_b24_l27.other W68 (Ne.symm ne_b3_b24)
                have A_b11_68 := A_b11_l27.other W68 (Ne.symm ne_b3_b11)
                have Z68 := Nat.le_trans Zl27 (Keep.of_wr W68).1
                have KK68 : Keep h0 h68 [] := KKl27.wr W68 (Or.inr sz_b3)
                have A_b3_68 : Ary Z h68 b3 .int 5 (fun i => .int ((upA (degF ee kk) 3 (((degF ee kk) 3) + (1 : Int32))) i)) := A_b3_l27.setI W68 (by decide)
                show Go p e below _ (T68.setTop (mkF m 141 _ [(.int ((degF ee kk) 3)), (.ref b21)]))
                refine gJ (q := 143) X68 hx (hb hby d4_141) rfl rfl ?_
                obtain ⟨cl69, Ar69, in69, -⟩ := A_b21_68.hin (j := ((degF ee kk) 3)) (degB hTen (ltA hkl hq)).1 (degB hTen (ltA hkl hq)).2
                obtain ⟨T69, h69, X69, e69, W69, st69⟩ := stI X68 hx hZ e68 Ar69 in69 (g := (mkF m 143 #[.val (.int (5 : Int32)), .val (.ref a2), .val (.ref b3), .val (.ref b11), .val (.ref a2), .val (.int ee.length.toInt32), .val (.int (Int32.ofNat kk)), .val (.long (enc (3, 4))), .second, .val (.int (3 : Int32)), .val (.int (4 : Int32))] [(.int (4 : Int32)), (.int ((degF ee kk) 3)), (.ref b21)])) rfl rfl (hb hby d4_143)
                refine Go.step st69 ?_
                have N69 := Fr.snoc X69 N68 g_b21
                have A_a2_69 := A_a2_68.other W69 ne_a2_b21
                have A_b12_69 := A_b12_68.other W69 ne_b12_b21
                have A_b15_69 := A_b15_68.other W69 ne_b15_b21
                have A_b18_69 := A_b18_68.other W69 ne_b18_b21
                have A_b24_69 := A_b24_68.other W69 (Ne.symm ne_b21_b24)
                have A_b11_69 := A_b11_68.other W69 ne_b11_b21
                have A_b3_69 := A_b3_68.other W69 ne_b3_b21
                have Z69 := Nat.le_trans Z68 (Keep.of_wr W69).1
                have KK69 : Keep h0 h69 [] := KK68.wr W69 (Or.inr sz_b21)
                have A_b21_69 : Ary Z h69 b21 .int (nb ee 3).length (fun i => .int ((upA (rowF (nb (ee.take kk) 3)) ((degF ee kk) 3).toNatClampNeg (4 : Int32)) i)) := A_b21_68.setI W69 (degB hTen (ltA hkl hq)).2
                show Go p e below _ (T69.setTop (mkF m 144 _ []))
                refine gA (q := 145) X69 hx (hb hby d4_144) rfl rfl rfl ?_
                refine gJ (q := 147) X69 hx (hb hby d4_145) rfl rfl ?_
                refine Go.step (ldR X69 hx hZ e69 A_b11_69.ary rfl (j := (4 : Int32)) (by decide) (by decide) (g := (mkF m 147 _ [(.int (4 : Int32)), (.ref b11)])) rfl rfl (hb hby d4_147)) ?_
                show Go p e below _ (T69.setTop (mkF m 148 _ [(.ref b24)]))
                refine gA (q := 149) X69 hx (hb hby d4_148) rfl rfl rfl ?_
                refine gJ (q := 151) X69 hx (hb hby d4_149) rfl rfl ?_
                refine Go.step (S' := T69.setTop (mkF m 152 #[.val (.int (5 : Int32)), .val (.ref a2), .val (.ref b3), .val (.ref b11), .val (.ref a2), .val (.int ee.length.toInt32), .val (.int (Int32.ofNat kk)), .val (.long (enc (3, 4))), .second, .val (.int (3 : Int32)), .val (.int (4 : Int32))] [(.int (4 : Int32)), (.ref b3), (.int (4 : Int32)), (.ref b3), (.ref b24)])) (fun t k => ?_) ?_
                · jvm_step X69.here [X69.here.top, hx, (hb hby d4_151), Value.category]
                  exact k
                show Go p e below _ (T69.setTop (mkF m 152 _ [(.int (4 : Int32)), (.ref b3), (.int (4 : Int32)), (.ref b3), (.ref b24)]))
                refine Go.step (ldI X69 hx hZ e69 A_b3_69 (j := (4 : Int32)) (by decide) (by decide) (g := (mkF m 152 _ [(.int (4 : Int32)), (.ref b3), (.int (4 : Int32)), (.ref b3), (.ref b24)])) rfl rfl (hb hby d4_152)) ?_
                show Go p e below _ (T69.setTop (mkF m 153 _ [(.int ((degF ee kk) 4)), (.int (4 : Int32)), (.ref b3), (.ref b24)]))
                refine Go.step (S' := T69.setTop (mkF m 154 #[.val (.int (5 : Int32)), .val (.ref a2), .val (.ref b3), .val (.ref b11), .val (.ref a2), .val (.int ee.length.toInt32), .val (.int (Int32.ofNat kk)), .val (.long (enc (3, 4))), .second, .val (.int (3 : Int32)), .val (.int (4 : Int32))] [(.int ((degF ee kk) 4)), (.int (4 : Int32)), (.ref b3), (.int ((degF ee kk) 4)), (.ref b24)])) (fun t k => ?_) ?_
                · jvm_step X69.here [X69.here.top, hx, (hb hby d4_153), Value.category]
                  exact k
                show Go p e below _ (T69.setTop (mkF m 154 _ [(.int ((degF ee kk) 4)), (.int (4 : Int32)), (.ref b3), (.int ((degF ee kk) 4)), (.ref b24)]))
                refine gC (q := 155) (v := 1) X69 hx (hb hby d4_154) rfl rfl ?_
                refine Go.step (fun t k => XS.iadd X69.here hx rfl (hb hby d4_155) rfl k) ?_
                show Go p e below _ (T69.setTop (mkF m 156 _ [(.int (((degF ee kk) 4) + (1 : Int32))), (.int (4 : Int32)), (.ref b3), (.int ((degF ee kk) 4)), (.ref b24)]))
                obtain ⟨cl70, Ar70, in70, -⟩ := A_b3_69.hin (j := (4 : Int32)) (by decide) (by decide)
                obtain ⟨T70, h70, X70, e70, W70, st70⟩ := stI X69 hx hZ e69 Ar70 in70 (g := (mkF m 156 #[.val (.int (5 : Int32)), .val (.ref a2), .val (.ref b3), .val (.ref b11), .val (.ref a2), .val (.int ee.length.toInt32), .val (.int (Int32.ofNat kk)), .val (.long (enc (3, 4))), .second, .val (.int (3 : Int32)), .val (.int (4 : Int32))] [(.int (((degF ee kk) 4) + (1 : Int32))), (.int (4 : Int32)), (.ref b3), (.int ((degF ee kk) 4)), (.ref b24)])) rfl rfl (hb hby d4_156)
                refine Go.step st70 ?_
                have N70 := Fr.snoc X70 N69 g_b3
                have A_a2_70 := A_a2_69.other W70 ne_a2_b3
                have A_b12_70 := A_b12_69.other W70 (Ne.symm ne_b3_b12)
                have A_b15_70 := A_b15_69.other W70 (Ne.symm ne_b3_b15)
                have A_b18_70 := A_b18_69.other W70 (Ne.symm ne_b3_b18)
                have A_b24_70 := A_b24_69.other W70 (Ne.symm ne_b3_b24)
                have A_b11_70 := A_b11_69.other W70 (Ne.symm ne_b3_b11)
                have A_b21_70 := A_b21_69.other W70 (Ne.symm ne_b3_b21)
                have Z70 := Nat.le_trans Z69 (Keep.of_wr W70).1
                have KK70 : Keep h0 h70 [] := KK69.wr W70 (Or.inr sz_b3)
                have A_b3_70 : Ary Z h70 b3 .int 5 (fun i => .int ((upA (upA (degF ee kk) 3 (((degF ee kk) 3) + (1 : Int32))) 4 (((degF ee kk) 4) + (1 : Int32))) i)) := A_b3_69.setI W70 (by decide)
                show Go p e below _ (T70.setTop (mkF m 157 _ [(.int ((degF ee kk) 4)), (.ref b24)]))
                refine gJ (q := 159) X70 hx (hb hby d4_157) rfl rfl ?_
                obtain ⟨cl71, Ar71, in71, -⟩ := A_b24_70.hin (j := ((degF ee kk) 4)) (degB hTen (ltB hkl hq (by decide))).1 (degB hTen (ltB hkl hq (by decide))).2
                obtain ⟨T71, h71, X71, e71, W71, st71⟩ := stI X70 hx hZ e70 Ar71 in71 (g := (mkF m 159 #[.val (.int (5 : Int32)), .val (.ref a2), .val (.ref b3), .val (.ref b11), .val (.ref a2), .val (.int ee.length.toInt32), .val (.int (Int32.ofNat kk)), .val (.long (enc (3, 4))), .second, .val (.int (3 : Int32)), .val (.int (4 : Int32))] [(.int (3 : Int32)), (.int ((degF ee kk) 4)), (.ref b24)])) rfl rfl (hb hby d4_159)
                refine Go.step st71 ?_
                have N71 := Fr.snoc X71 N70 g_b24
                have A_a2_71 := A_a2_70.other W71 ne_a2_b24
                have A_b12_71 := A_b12_70.other W71 ne_b12_b24
                have A_b15_71 := A_b15_70.other W71 ne_b15_b24
                have A_b18_71 := A_b18_70.other W71 ne_b18_b24
                have A_b11_71 := A_b11_70.other W71 ne_b11_b24
                have A_b21_71 := A_b21_70.other W71 ne_b21_b24
                have A_b3_71 := A_b3_70.other W71 ne_b3_b24
                have Z71 := Nat.le_trans Z70 (Keep.of_wr W71).1
                have KK71 : Keep h0 h71 [] := KK70.wr W71 (Or.inr sz_b24)
                have A_b24_71 : Ary Z h71 b24 .int (nb ee 4).length (fun i => .int ((upA (rowF (nb (ee.take kk) 4)) ((degF ee kk) 4).toNatClampNeg (3 : Int32)) i)) := A_b24_70.setI W71 (degB hTen (ltB hkl hq (by decide))).2
                show Go p e below _ (T71.setTop (mkF m 160 _ []))
                refine Go.step (fun t k => XS.iinc X71.here hx rfl (hb hby d4_160) rfl (l' := #[.val (.int (5 : Int32)), .val (.ref a2), .val (.ref b3), .val (.ref b11), .val (.ref a2), .val (.int ee.length.toInt32), .val (.int ((Int32.ofNat kk) + (1 : Int32))), .val (.long (enc (3, 4))), .second, .val (.int (3 : Int32)), .val (.int (4 : Int32))]) rfl k) ?_
                show Go p e below _ (T71.setTop (mkF m 163 _ []))
                refine Go.step (fun t k => XS.goto X71.here hx rfl (pc0 := 163) (pc' := 100) rfl (hb hby d4_163) (by decide) (by decide) k) ?_
                show Go p e below _ (T71.setTop (mkF m 100 _ []))
                show Go p e below _ (T71.setTop (mkF m 100 _ []))
                rw [succ32]
                exact ih _ (by omega) (kk + 1) _ (One.val rfl) _ (One.val rfl) _ _ Two.v _ _ _ rfl (by omega) X71 N71 e71 KK71 Z71 A_a2_71 (A_b12_71.congr fun q _ => congrArg Value.int (by rw [nbC hkl hq (by decide) (by decide)])) (A_b15_71.congr fun q _ => congrArg Value.int (by rw [nbC hkl hq (by decide) (by decide)])) (A_b18_71.congr fun q _ => congrArg Value.int (by rw [nbC hkl hq (by decide) (by decide)])) (A_b21_71.congr fun q _ => congrArg Value.int (rowA hTen hkl hq (by decide) q)) (A_b24_71.congr fun q _ => congrArg Value.int (rowB hTen hkl hq (by decide) (by decide) q)) A_b11_71 (A_b3_71.congr fun i _ => congrArg Value.int (degS hkl hq (by decide) i))
            · refine Go.step (fun t k => XS.icmpYes Xl27.here hx rfl (pc0 := 104) (pc' := 166) rfl (hb hby d4_104) rfl (flt hc28).2.1 (by decide) (by decide) k) ?_
              show Go p e below _ (Tl27.setTop (mkF m 166 _ []))
              obtain rfl : kk = ee.length := j_ge hTen hk hc28
              have A_b12_l27e : Ary Z hl27 b12 .int (nb ee 0).length (fun i => .int ((rowF (nb ee 0)) i)) := by have q := A_b12_l27; rw [List.take_length] at q; exact q
              have A_b15_l27e : Ary Z hl27 b15 .int (nb ee 1).length (fun i => .int ((rowF (nb ee 1)) i)) := by have q := A_b15_l27; rw [List.take_length] at q; exact q
              have A_b18_l27e : Ary Z hl27 b18 .int (nb ee 2).length (fun i => .int ((rowF (nb ee 2)) i)) := by have q := A_b18_l27; rw [List.take_length] at q; exact q
              have A_b21_l27e : Ary Z hl27 b21 .int (nb ee 3).length (fun i => .int ((rowF (nb ee 3)) i)) := by have q := A_b21_l27; rw [List.take_length] at q; exact q
              have A_b24_l27e : Ary Z hl27 b24 .int (nb ee 4).length (fun i => .int ((rowF (nb ee 4)) i)) := by have q := A_b24_l27; rw [List.take_length] at q; exact q
              show Go p e below _ (Tl27.setTop (mkF m 166 _ []))
              refine gA (q := 167) Xl27 hx (hb hby d4_166) rfl rfl rfl ?_
              refine retGR Xl27 hx Bd.notSynchronized Bd.returns rfl rfl (hb hby d4_167) ?_ (by decide) (by decide)
              show Q4_5 Z a2 ee h0 n0 _ Tl27.heap _
              rw [el27]
              exact ⟨b11, b12, b15, b18, b21, b24, rfl, Nl27, KKl27, sz_b11, sz_b12, sz_b15, sz_b18, sz_b21, sz_b24, A_b12_l27e, A_b15_l27e, A_b18_l27e, A_b21_l27e, A_b24_l27e, A_b11_l27⟩
        exact LOOP100 _ 0 _ One.u _ One.u _ _ Two.u _ _ _ rfl (Nat.zero_le _) X26 N26 e26 KK26 Z26 A_a2_26 (A_b12_26.congr fun q _ => congrArg Value.int (row0 ee 0 q)) (A_b15_26.congr fun q _ => congrArg Value.int (row0 ee 1 q)) (A_b18_26.congr fun q _ => congrArg Value.int (row0 ee 2 q)) (A_b21_26.congr fun q _ => congrArg Value.int (row0 ee 3 q)) (A_b24_26.congr fun q _ => congrArg Value.int (row0 ee 4 q)) A_b11_26 (A_b3_26.congr fun i hi => congrArg Value.int (by rw [← deg0]; (rcases i with _ | _ | _ | _ | _ | i) <;> first | rfl | (exfalso; omega)))
  exact LOOP13 _ 0 _ _ Two.u _ _ _ rfl (Nat.zero_le _) X3 N0 e3 KK3 Z3 A_a2_3 (A_b3_3.congr fun i _ => congrArg Value.int (deg0 ee i)) Ex3
theorem d10_0 : decode jdk_29_method_69_code 0 = .ok (.iload_n 0, 1) := by decide +kernel
theorem d10_1 : decode jdk_29_method_69_code 1 = .ok (.iload_n 1, 1) := by decide +kernel
theorem d10_2 : decode jdk_29_method_69_code 2 = .ok (.if_icmp .gt 7, 3) := by decide +kernel
theorem d10_9 : decode jdk_29_method_69_code 9 = .ok (.iload_n 1, 1) := by decide +kernel
theorem d10_10 : decode jdk_29_method_69_code 10 = .ok (.ireturn, 1) := by decide +kernel
theorem d10_5 : decode jdk_29_method_69_code 5 = .ok (.iload_n 0, 1) := by decide +kernel
theorem d10_6 : decode jdk_29_method_69_code 6 = .ok (.goto 4, 3) := by decide +kernel
theorem ef_10 (m : MethodId) (p1 : Int32) (p2 : Int32) : entryFrame m #[(.int p1), (.int p2)] 2 = mkF m 0 #[.val (.int p1), .val (.int p2)] [] := by first | (simp [entryFrame, mkF, argsToLocals, Value.category]; done) | rfl
def f10 (p1 : Int32) (p2 : Int32) : Int32 := (if p2 < p1 then p2 else p1)
set_option maxRecDepth 65536 in
set_option maxHeartbeats 40000000 in
theorem rm10 (l : Launch) (Z : State) (a0 : Array Value) (hw : ∀ d ∈ tables_1, d.before a0 Z = true) (ws : List Jvm.Cond) (p1 : Int32) (p2 : Int32) (h0 : Heap) (n0 : Nat) (Z0 : n0 ≤ h0.size) :
    MetFree l (⟨"java/lang/Math", "min", "(II)I"⟩ : MethodName) (head1 (Jvm.Cond.code (⟨"java/lang/Math", "min", "(II)I"⟩ : MethodName) jdk_29_method_69_code 2 (some .int) :: ws) ({ frames := 0, cells := 0, slots := 0, locals := 0 } : Room)) (fun a U => a = #[(.int p1), (.int p2)] ∧ Z.Warmed39 U.vm ∧ U.heap = h0) (fun _ _ _ _ _ => True) (fun _ U o U' => ∃ v L, o = .returned v ∧ QP (.int (f10 p1 p2)) h0 n0 v U'.heap L ∧ FrameEnd U o U' L ({ frames := 0, cells := 0, slots := 0, locals := 0 } : Room).cells ({ frames := 0, cells := 0, slots := 0, locals := 0 } : Room).slots) := by
  refine MetFree.of_bodySF (Jvm.Free.JP.mathPlain rfl (by decide +kernel)) hisR ?_
  intro p e s m args below meth c s₁ Bd hml0 hP hK
  obtain ⟨rfl, hZ, hh⟩ := hP
  have hx := Bd.exec
  have hby := Bd.bytes
  have hml : c.maxLocals = 2 := hml0
  have hown : s.vm.findClass "java/lang/Math" = some m.cls := findClass_of_methodNamed Bd.named
  have hnm := (name_of_methodNamed Bd.named Bd.method).1
  have X0 : Stand p l e ({ frames := 0, cells := 0, slots := 0, locals := 0 } : Room) s m #[(.int p1), (.int p2)] below meth c s₁ [] 0 0 := Stand.of_body Bd
  have e0 : s₁.heap = h0 := by rw [← hh, Bd.state]; rfl
  have N0 := Fr.nil n0
  refine Go.done (Go.step (fun t k => castTop (ef_10 m p1 p2) k) ?_)
  have KK0 : Keep h0 h0 [] := Keep.refl _ _
  show Go p e below _ (s₁.setTop (mkF m 0 _ []))
  refine gI (q := 1) X0 hx (hb hby d10_0) rfl rfl ?_
  refine gI (q := 2) X0 hx (hb hby d10_1) rfl rfl ?_
  by_cases hc3 : p2 < p1
  · refine Go.step (fun t k => XS.icmpYes X0.here hx rfl (pc0 := 2) (pc' := 9) rfl (hb hby d10_2) rfl (tlt hc3).2.2.1 (by decide) (by decide) k) ?_
    show Go p e below _ (s₁.setTop (mkF m 9 _ []))
    refine gI (q := 10) X0 hx (hb hby d10_9) rfl rfl ?_
    exact retGI X0 hx Bd.notSynchronized Bd.returns (hb hby d10_10) ⟨by first | (simp only [f10, if_pos hc3]; done) | rfl | (simp [f10, if_pos hc3]; done), N0, e0⟩ (by decide) (by decide)
  · refine Go.step (fun t k => XS.icmpNo X0.here hx rfl (hb hby d10_2) rfl (flt hc3).2.2.1 k) ?_
    show Go p e below _ (s₁.setTop (mkF m 5 _ []))
    refine gI (q := 6) X0 hx (hb hby d10_5) rfl rfl ?_
    refine Go.step (fun t k => XS.goto X0.here hx rfl (pc0 := 6) (pc' := 10) rfl (hb hby d10_6) (by decide) (by decide) k) ?_
    show Go p e below _ (s₁.setTop (mkF m 10 _ [(.int p1)]))
    exact retGI X0 hx Bd.notSynchronized Bd.returns (hb hby d10_10) ⟨by first | (simp only [f10, if_neg hc3]; done) | rfl | (simp [f10, if_neg hc3]; done), N0, e0⟩ (by decide) (by decide)
theorem d11_0 : decode jdk_29_method_65_code 0 = .ok (.iload_n 0, 1) := by decide +kernel
theorem d11_1 : decode jdk_29_method_65_code 1 = .ok (.iload_n 1, 1) := by decide +kernel
theorem d11_2 : decode jdk_29_method_65_code 2 = .ok (.if_icmp .lt 7, 3) := by decide +kernel
theorem d11_9 : decode jdk_29_method_65_code 9 = .ok (.iload_n 1, 1) := by decide +kernel
theorem d11_10 : decode jdk_29_method_65_code 10 = .ok (.ireturn, 1) := by decide +kernel
theorem d11_5 : decode jdk_29_method_65_code 5 = .ok (.iload_n 0, 1) := by decide +kernel
theorem d11_6 : decode jdk_29_method_65_code 6 = .ok (.goto 4, 3) := by decide +kernel
theorem ef_11 (m : MethodId) (p1 : Int32) (p2 : Int32) : entryFrame m #[(.int p1), (.int p2)] 2 = mkF m 0 #[.val (.int p1), .val (.int p2)] [] := by first | (simp [entryFrame, mkF, argsToLocals, Value.category]; done) | rfl
def f11 (p1 : Int32) (p2 : Int32) : Int32 := (if p1 < p2 then p2 else p1)
set_option maxRecDepth 65536 in
set_option maxHeartbeats 40000000 in
theorem rm11 (l : Launch) (Z : State) (a0 : Array Value) (hw : ∀ d ∈ tables_1, d.before a0 Z = true) (ws : List Jvm.Cond) (p1 : Int32) (p2 : Int32) (h0 : Heap) (n0 : Nat) (Z0 : n0 ≤ h0.size) :
    MetFree l (⟨"java/lang/Math", "max", "(II)I"⟩ : MethodName) (head1 (Jvm.Cond.code (⟨"java/lang/Math", "max", "(II)I"⟩ : MethodName) jdk_29_method_65_code 2 (some .int) :: ws) ({ frames := 0, cells := 0, slots := 0, locals := 0 } : Room)) (fun a U => a = #[(.int p1), (.int p2)] ∧ Z.Warmed39 U.vm ∧ U.heap = h0) (fun _ _ _ _ _ => True) (fun _ U o U' => ∃ v L, o = .returned v ∧ QP (.int (f11 p1 p2)) h0 n0 v U'.heap L ∧ FrameEnd U o U' L ({ frames := 0, cells := 0, slots := 0, locals := 0 } : Room).cells ({ frames := 0, cells := 0, slots := 0, locals := 0 } : Room).slots) := by
  refine MetFree.of_bodySF (Jvm.Free.JP.mathPlain rfl (by decide +kernel)) hisR ?_
  intro p e s m args below meth c s₁ Bd hml0 hP hK
  obtain ⟨rfl, hZ, hh⟩ := hP
  have hx := Bd.exec
  have hby := Bd.bytes
  have hml : c.maxLocals = 2 := hml0
  have hown : s.vm.findClass "java/lang/Math" = some m.cls := findClass_of_methodNamed Bd.named
  have hnm := (name_of_methodNamed Bd.named Bd.method).1
  have X0 : Stand p l e ({ frames := 0, cells := 0, slots := 0, locals := 0 } : Room) s m #[(.int p1), (.int p2)] below meth c s₁ [] 0 0 := Stand.of_body Bd
  have e0 : s₁.heap = h0 := by rw [← hh, Bd.state]; rfl
  have N0 := Fr.nil n0
  refine Go.done (Go.step (fun t k => castTop (ef_11 m p1 p2) k) ?_)
  have KK0 : Keep h0 h0 [] := Keep.refl _ _
  show Go p e below _ (s₁.setTop (mkF m 0 _ []))
  refine gI (q := 1) X0 hx (hb hby d11_0) rfl rfl ?_
  refine gI (q := 2) X0 hx (hb hby d11_1) rfl rfl ?_
  by_cases hc3 : p1 < p2
  · refine Go.step (fun t k => XS.icmpYes X0.here hx rfl (pc0 := 2) (pc' := 9) rfl (hb hby d11_2) rfl (tlt hc3).1 (by decide) (by decide) k) ?_
    show Go p e below _ (s₁.setTop (mkF m 9 _ []))
    refine gI (q := 10) X0 hx (hb hby d11_9) rfl rfl ?_
    exact retGI X0 hx Bd.notSynchronized Bd.returns (hb hby d11_10) ⟨by first | (simp only [f11, if_pos hc3]; done) | rfl | (simp [f11, if_pos hc3]; done), N0, e0⟩ (by decide) (by decide)
  · refine Go.step (fun t k => XS.icmpNo X0.here hx rfl (hb hby d11_2) rfl (flt hc3).1 k) ?_
    show Go p e below _ (s₁.setTop (mkF m 5 _ []))
    refine gI (q := 6) X0 hx (hb hby d11_5) rfl rfl ?_
    refine Go.step (fun t k => XS.goto X0.here hx rfl (pc0 := 6) (pc' := 10) rfl (hb hby d11_6) (by decide) (by decide) k) ?_
    show Go p e below _ (s₁.setTop (mkF m 10 _ [(.int p1)]))
    exact retGI X0 hx Bd.notSynchronized Bd.returns (hb hby d11_10) ⟨by first | (simp only [f11, if_neg hc3]; done) | rfl | (simp [f11, if_neg hc3]; done), N0, e0⟩ (by decide) (by decide)
theorem d9_0 : decode method_7_code 0 = .ok (.iload_n 2, 1) := by decide +kernel
theorem d9_1 : decode method_7_code 1 = .ok (.iload_n 3, 1) := by decide +kernel
theorem d9_2 : decode method_7_code 2 = .ok (.if_icmp .ne 5, 3) := by decide +kernel
theorem d9_5 : decode method_7_code 5 = .ok (.iconst 0, 1) := by decide +kernel
theorem d9_6 : decode method_7_code 6 = .ok (.ireturn, 1) := by decide +kernel
theorem d9_7 : decode method_7_code 7 = .ok (.iload_n 0, 1) := by decide +kernel
theorem d9_8 : decode method_7_code 8 = .ok (.iload_n 1, 1) := by decide +kernel
theorem d9_9 : decode method_7_code 9 = .ok (.iload_n 2, 1) := by decide +kernel
theorem d9_10 : decode method_7_code 10 = .ok (.iload_n 3, 1) := by decide +kernel
theorem d9_11 : decode method_7_code 11 = .ok (.invokestatic 36, 3) := by decide +kernel
theorem d9_14 : decode method_7_code 14 = .ok (.iload_n 2, 1) := by decide +kernel
theorem d9_15 : decode method_7_code 15 = .ok (.iload_n 3, 1) := by decide +kernel
theorem d9_16 : decode method_7_code 16 = .ok (.invokestatic 41, 3) := by decide +kernel
theorem d9_19 : decode method_7_code 19 = .ok (.invokestatic 32, 3) := by decide +kernel
theorem d9_22 : decode method_7_code 22 = .ok (.ireturn, 1) := by decide +kernel
theorem ef_9 (m : MethodId) (p1 : Int32) (p2 : Int32) (p3 : Int32) (p4 : Int32) : entryFrame m #[(.int p1), (.int p2), (.int p3), (.int p4)] 4 = mkF m 0 #[.val (.int p1), .val (.int p2), .val (.int p3), .val (.int p4)] [] := by first | (simp [entryFrame, mkF, argsToLocals, Value.category]; done) | rfl
def f9 (p1 : Int32) (p2 : Int32) (p3 : Int32) (p4 : Int32) : Int32 := (if p3 = p4 then (0 : Int32) else (nar .boolean (f2 p1 p2 (f10 p3 p4) (f11 p3 p4))))
set_option maxRecDepth 65536 in
set_option maxHeartbeats 40000000 in
theorem rm9 (l : Launch) (Z : State) (a0 : Array Value) (hw : ∀ d ∈ tables_1, d.before a0 Z = true) (ws : List Jvm.Cond) (p1 : Int32) (p2 : Int32) (p3 : Int32) (p4 : Int32) (h0 : Heap) (n0 : Nat) (Z0 : n0 ≤ h0.size) :
    MetFree l (⟨"com/example/hertzbid/hertzbid/ConflictPairsNeighboursPinLaw", "adj", "(IIII)Z"⟩ : MethodName) (head1 (Jvm.Cond.code (⟨"com/example/hertzbid/hertzbid/ConflictPairsNeighboursPinLaw", "adj", "(IIII)Z"⟩ : MethodName) method_7_code 4 (some .boolean) :: ws) ({ frames := 2, cells := 0, slots := 0, locals := 29 } : Room)) (fun a U => a = #[(.int p1), (.int p2), (.int p3), (.int p4)] ∧ Z.Warmed39 U.vm ∧ U.heap = h0) (fun _ _ _ _ _ => True) (fun _ U o U' => ∃ v L, o = .returned v ∧ QP (.int (f9 p1 p2 p3 p4)) h0 n0 v U'.heap L ∧ FrameEnd U o U' L ({ frames := 2, cells := 0, slots := 0, locals := 29 } : Room).cells ({ frames := 2, cells := 0, slots := 0, locals := 29 } : Room).slots) := by
  refine MetFree.of_bodySF (plainFor_of_name pn_0) hisR ?_
  intro p e s m args below meth c s₁ Bd hml0 hP hK
  obtain ⟨rfl, hZ, hh⟩ := hP
  have hx := Bd.exec
  have hby := Bd.bytes
  have hml : c.maxLocals = 4 := hml0
  have hown : s.vm.findClass "com/example/hertzbid/hertzbid/ConflictPairsNeighboursPinLaw" = some m.cls := findClass_of_methodNamed Bd.named
  have hnm := (name_of_methodNamed Bd.named Bd.method).1
  have X0 : Stand p l e ({ frames := 2, cells := 0, slots := 0, locals := 29 } : Room) s m #[(.int p1), (.int p2), (.int p3), (.int p4)] below meth c s₁ [] 0 0 := Stand.of_body Bd
  have e0 : s₁.heap = h0 := by rw [← hh, Bd.state]; rfl
  have N0 := Fr.nil n0
  refine Go.done (Go.step (fun t k => castTop (ef_9 m p1 p2 p3 p4) k) ?_)
  have KK0 : Keep h0 h0 [] := Keep.refl _ _
  show Go p e below _ (s₁.setTop (mkF m 0 _ []))
  refine gI (q := 1) X0 hx (hb hby d9_0) rfl rfl ?_
  refine gI (q := 2) X0 hx (hb hby d9_1) rfl rfl ?_
  by_cases hc5 : p3 = p4
  · refine Go.step (fun t k => XS.icmpNo X0.here hx rfl (hb hby d9_2) rfl (teq hc5).2 k) ?_
    show Go p e below _ (s₁.setTop (mkF m 5 _ []))
    refine gC (q := 6) (v := 0) X0 hx (hb hby d9_5) rfl rfl ?_
    exact retGN X0 hx Bd.notSynchronized Bd.returns (t := .boolean) (by simp) (z' := (0 : Int32)) rfl (hb hby d9_6) ⟨by first | (simp only [f9, if_pos hc5]; done) | rfl | (simp [f9, if_pos hc5]; done), N0, e0⟩ (by decide) (by decide)
  · refine Go.step (fun t k => XS.icmpYes X0.here hx rfl (pc0 := 2) (pc' := 7) rfl (hb hby d9_2) rfl (feq hc5).2 (by decide) (by decide) k) ?_
    show Go p e below _ (s₁.setTop (mkF m 7 _ []))
    refine gI (q := 8) X0 hx (hb hby d9_7) rfl rfl ?_
    refine gI (q := 9) X0 hx (hb hby d9_8) rfl rfl ?_
    refine gI (q := 10) X0 hx (hb hby d9_9) rfl rfl ?_
    refine gI (q := 11) X0 hx (hb hby d9_10) rfl rfl ?_
    obtain ⟨_, _, ⟨T6, L6, k6, n6⟩, -, X6, ⟨Lc6, hQ6, l6, y6, z6⟩, st6⟩ := Jvm.LawKit.callS X0 hx (y := (⟨"java/lang/Math", "min", "(II)I"⟩ : MethodName)) hown (mvT hZ (hw _ (List.mem_of_getElem? (i := 35) rfl))) (mvT hZ (hw _ (List.mem_of_getElem? (i := 36) rfl))) (mvT hZ (hw _ (List.mem_of_getElem? (i := 37) rfl))) (mvT hZ (hw _ (List.mem_of_getElem? (i := 38) rfl))) (by decide) (backOf (W := 2) (rm10 l Z a0 hw [] p3 p4 h0 n0 Z0) hZ (hw _ (List.mem_of_getElem? (i := 38) rfl)) (hw _ (List.mem_of_getElem? (i := 37) rfl)) (by decide) (by decide)) (g := (mkF m 11 #[.val (.int p1), .val (.int p2), .val (.int p3), .val (.int p4)] [(.int p4), (.int p3), (.int p2), (.int p1)])) rfl (by rw [hml]; rfl) (argsL := [(.int p3), (.int p4)]) (rest := [(.int p2), (.int p1)]) (lenOf pd_0 rfl) rfl (by show 2 * 0 + _ ≤ _; exact Nat.le_of_eq rfl) (hb hby d9_11) (fun _ _ => ⟨rfl, e0, (by decide : 0 + 0 ≤ _), (by decide : 0 + 0 ≤ _)⟩)
    dsimp only [Pt.U, Pt.locs, Pt.cells, Pt.slots] at X6 l6 y6 z6 st6 hQ6
    replace y6 : k6 = 0 := y6
    replace z6 : n6 = 0 := z6
    subst y6 z6
    obtain ⟨rfl, N6q, e6⟩ := hQ6
    have N6 : Fr n0 L6 := Eq.mpr (congrArg (Fr n0) l6) (Fr.app N0 N6q)
    refine Go.step st6 ?_
    show Go p e below _ (T6.setTop (mkF m 14 _ [(.int (f10 p3 p4)), (.int p2), (.int p1)]))
    refine gI (q := 15) X6 hx (hb hby d9_14) rfl rfl ?_
    refine gI (q := 16) X6 hx (hb hby d9_15) rfl rfl ?_
    obtain ⟨_, _, ⟨T7, L7, k7, n7⟩, -, X7, ⟨Lc7, hQ7, l7, y7, z7⟩, st7⟩ := Jvm.LawKit.callS X6 hx (y := (⟨"java/lang/Math", "max", "(II)I"⟩ : MethodName)) hown (mvT hZ (hw _ (List.mem_of_getElem? (i := 39) rfl))) (mvT hZ (hw _ (List.mem_of_getElem? (i := 40) rfl))) (mvT hZ (hw _ (List.mem_of_getElem? (i := 37) rfl))) (mvT hZ (hw _ (List.mem_of_getElem? (i := 41) rfl))) (by decide) (backOf (W := 3) (rm11 l Z a0 hw [] p3 p4 h0 n0 Z0) hZ (hw _ (List.mem_of_getElem? (i := 41) rfl)) (hw _ (List.mem_of_getElem? (i := 37) rfl)) (by decide) (by decide)) (g := (mkF m 16 #[.val (.int p1), .val (.int p2), .val (.int p3), .val (.int p4)] [(.int p4), (.int p3), (.int (f10 p3 p4)), (.int p2), (.int p1)])) rfl (by rw [hml]; rfl) (argsL := [(.int p3), (.int p4)]) (rest := [(.int (f10 p3 p4)), (.int p2), (.int p1)]) (lenOf pd_0 rfl) rfl (by show 2 * 0 + _ ≤ _; exact Nat.le_of_eq rfl) (hb hby d9_16) (fun _ _ => ⟨rfl, e6, (by decide : 0 + 0 ≤ _), (by decide : 0 + 0 ≤ _)⟩)
    dsimp only [Pt.U, Pt.locs, Pt.cells, Pt.slots] at X7 l7 y7 z7 st7 hQ7
    replace y7 : k7 = 0 := y7
    replace z7 : n7 = 0 := z7
    subst y7 z7
    obtain ⟨rfl, N7q, e7⟩ := hQ7
    have N7 : Fr n0 L7 := Eq.mpr (congrArg (Fr n0) l7) (Fr.app N6 N7q)
    refine Go.step st7 ?_
    show Go p e below _ (T7.setTop (mkF m 19 _ [(.int (f11 p3 p4)), (.int (f10 p3 p4)), (.int p2), (.int p1)]))
    obtain ⟨_, _, ⟨T8, L8, k8, n8⟩, -, X8, ⟨Lc8, hQ8, l8, y8, z8⟩, st8⟩ := Jvm.LawKit.callS X7 hx (y := (⟨"com/example/hertzbid/hertzbid/ConflictPairsNeighboursPinLaw", "in", "(IIII)Z"⟩ : MethodName)) hown (mvT hZ (hw _ (List.mem_of_getElem? (i := 5) rfl))) (mvT hZ (hw _ (List.mem_of_getElem? (i := 6) rfl))) (mvT hZ (hw _ (List.mem_of_getElem? (i := 3) rfl))) (mvT hZ (hw _ (List.mem_of_getElem? (i := 7) rfl))) (by decide) (backOf (W := 0) (rm2 l Z a0 hw [] p1 p2 (f10 p3 p4) (f11 p3 p4) h0 n0 Z0) hZ (hw _ (List.mem_of_getElem? (i := 7) rfl)) (hw _ (List.mem_of_getElem? (i := 3) rfl)) (by decide) (by decide)) (g := (mkF m 19 #[.val (.int p1), .val (.int p2), .val (.int p3), .val (.int p4)] [(.int (f11 p3 p4)), (.int (f10 p3 p4)), (.int p2), (.int p1)])) rfl (by rw [hml]; rfl) (argsL := [(.int p1), (.int p2), (.int (f10 p3 p4)), (.int (f11 p3 p4))]) (rest := []) (lenOf pd_1 rfl) rfl (by show 2 * 0 + _ ≤ _; exact Nat.le_of_eq rfl) (hb hby d9_19) (fun _ _ => ⟨rfl, e7, (by decide : 0 + 0 ≤ _), (by decide : 0 + 0 ≤ _)⟩)
    dsimp only [Pt.U, Pt.locs, Pt.cells, Pt.slots] at X8 l8 y8 z8 st8 hQ8
    replace y8 : k8 = 0 := y8
    replace z8 : n8 = 0 := z8
    subst y8 z8
    obtain ⟨rfl, N8q, e8⟩ := hQ8
    have N8 : Fr n0 L8 := Eq.mpr (congrArg (Fr n0) l8) (Fr.app N7 N8q)
    refine Go.step st8 ?_
    show Go p e below _ (T8.setTop (mkF m 22 _ [(.int (f2 p1 p2 (f10 p3 p4) (f11 p3 p4)))]))
    exact retGN X8 hx Bd.notSynchronized Bd.returns (t := .boolean) (by simp) (z' := (nar .boolean (f2 p1 p2 (f10 p3 p4) (f11 p3 p4)))) rfl (hb hby d9_22) ⟨by first | (simp only [f9, if_neg hc5]; done) | rfl | (simp [f9, if_neg hc5]; done), N8, e8⟩ (by decide) (by decide)
theorem d12_0 : decode method_8_code 0 = .ok (.iload_n 1, 1) := by decide +kernel
theorem d12_1 : decode method_8_code 1 = .ok (.aload_n 0, 1) := by decide +kernel
theorem d12_2 : decode method_8_code 2 = .ok (.arraylength, 1) := by decide +kernel
theorem d12_3 : decode method_8_code 3 = .ok (.if_icmp .ge 14, 3) := by decide +kernel
theorem d12_6 : decode method_8_code 6 = .ok (.aload_n 0, 1) := by decide +kernel
theorem d12_7 : decode method_8_code 7 = .ok (.iload_n 1, 1) := by decide +kernel
theorem d12_8 : decode method_8_code 8 = .ok (.iaload, 1) := by decide +kernel
theorem d12_9 : decode method_8_code 9 = .ok (.iload_n 2, 1) := by decide +kernel
theorem d12_10 : decode method_8_code 10 = .ok (.if_icmp .ne 7, 3) := by decide +kernel
theorem d12_13 : decode method_8_code 13 = .ok (.iconst 1, 1) := by decide +kernel
theorem d12_14 : decode method_8_code 14 = .ok (.goto 4, 3) := by decide +kernel
theorem d12_18 : decode method_8_code 18 = .ok (.ireturn, 1) := by decide +kernel
theorem d12_17 : decode method_8_code 17 = .ok (.iconst 0, 1) := by decide +kernel
theorem ef_12 (m : MethodId) (a1 : Addr) (p2 : Int32) (p3 : Int32) : entryFrame m #[(.ref a1), (.int p2), (.int p3)] 3 = mkF m 0 #[.val (.ref a1), .val (.int p2), .val (.int p3)] [] := by first | (simp [entryFrame, mkF, argsToLocals, Value.category]; done) | rfl
def f12 (p2 : Int32) (p3 : Int32) (ll : List Nat) : Int32 := (if p2 < ll.length.toInt32 then (if ((rowF ll) p2.toNatClampNeg) = p3 then (1 : Int32) else (0 : Int32)) else (0 : Int32))
set_option maxRecDepth 65536 in
set_option maxHeartbeats 40000000 in
theorem rm12 (l : Launch) (Z : State) (a0 : Array Value) (hw : ∀ d ∈ tables_1, d.before a0 Z = true) (ws : List Jvm.Cond) (a1 : Addr) (p2 : Int32) (p3 : Int32) (ll : List Nat) (h0 : Heap) (n0 : Nat) (Z0 : n0 ≤ h0.size) (hk : ¬ p2 < (0 : Int32)) (A_a1 : Ary Z h0 a1 .int ll.length (fun i => .int ((rowF ll) i))) :
    MetFree l (⟨"com/example/hertzbid/hertzbid/ConflictPairsNeighboursPinLaw", "at", "([III)Z"⟩ : MethodName) (head1 (Jvm.Cond.code (⟨"com/example/hertzbid/hertzbid/ConflictPairsNeighboursPinLaw", "at", "([III)Z"⟩ : MethodName) method_8_code 3 (some .boolean) :: ws) ({ frames := 0, cells := 0, slots := 0, locals := 0 } : Room)) (fun a U => a = #[(.ref a1), (.int p2), (.int p3)] ∧ Z.Warmed39 U.vm ∧ U.heap = h0) (fun _ _ _ _ _ => True) (fun _ U o U' => ∃ v L, o = .returned v ∧ QP (.int (f12 p2 p3 ll)) h0 n0 v U'.heap L ∧ FrameEnd U o U' L ({ frames := 0, cells := 0, slots := 0, locals := 0 } : Room).cells ({ frames := 0, cells := 0, slots := 0, locals := 0 } : Room).slots) := by
  refine MetFree.of_bodySF (plainFor_of_name pn_0) hisR ?_
  intro p e s m args below meth c s₁ Bd hml0 hP hK
  obtain ⟨rfl, hZ, hh⟩ := hP
  have hx := Bd.exec
  have hby := Bd.bytes
  have hml : c.maxLocals = 3 := hml0
  have hown : s.vm.findClass "com/example/hertzbid/hertzbid/ConflictPairsNeighboursPinLaw" = some m.cls := findClass_of_methodNamed Bd.named
  have hnm := (name_of_methodNamed Bd.named Bd.method).1
  have X0 : Stand p l e ({ frames := 0, cells := 0, slots := 0, locals := 0 } : Room) s m #[(.ref a1), (.int p2), (.int p3)] below meth c s₁ [] 0 0 := Stand.of_body Bd
  have e0 : s₁.heap = h0 := by rw [← hh, Bd.state]; rfl
  have N0 := Fr.nil n0
  refine Go.done (Go.step (fun t k => castTop (ef_12 m a1 p2 p3) k) ?_)
  have KK0 : Keep h0 h0 [] := Keep.refl _ _
  show Go p e below _ (s₁.setTop (mkF m 0 _ []))
  refine gI (q := 1) X0 hx (hb hby d12_0) rfl rfl ?_
  refine gA (q := 2) X0 hx (hb hby d12_1) rfl rfl rfl ?_
  refine Go.step (lenA X0 hx hZ e0 A_a1 (g := (mkF m 2 _ [(.ref a1), (.int p2)])) rfl rfl (hb hby d12_2)) ?_
  show Go p e below _ (s₁.setTop (mkF m 3 _ [(.int ll.length.toInt32), (.int p2)]))
  by_cases hc4 : p2 < ll.length.toInt32
  · refine Go.step (fun t k => XS.icmpNo X0.here hx rfl (hb hby d12_3) rfl (tlt hc4).2.1 k) ?_
    show Go p e below _ (s₁.setTop (mkF m 6 _ []))
    refine gA (q := 7) X0 hx (hb hby d12_6) rfl rfl rfl ?_
    refine gI (q := 8) X0 hx (hb hby d12_7) rfl rfl ?_
    refine Go.step (ldI X0 hx hZ e0 A_a1 (j := p2) hk (at_lt A_a1.len hk hc4) (g := (mkF m 8 _ [(.int p2), (.ref a1)])) rfl rfl (hb hby d12_8)) ?_
    show Go p e below _ (s₁.setTop (mkF m 9 _ [(.int ((rowF ll) p2.toNatClampNeg))]))
    refine gI (q := 10) X0 hx (hb hby d12_9) rfl rfl ?_
    by_cases hc5 : ((rowF ll) p2.toNatClampNeg) = p3
    · refine Go.step (fun t k => XS.icmpNo X0.here hx rfl (hb hby d12_10) rfl (teq hc5).2 k) ?_
      show Go p e below _ (s₁.setTop (mkF m 13 _ []))
      refine gC (q := 14) (v := 1) X0 hx (hb hby d12_13) rfl rfl ?_
      refine Go.step (fun t k => XS.goto X0.here hx rfl (pc0 := 14) (pc' := 18) rfl (hb hby d12_14) (by decide) (by decide) k) ?_
      show Go p e below _ (s₁.setTop (mkF m 18 _ [(.int (1 : Int32))]))
      exact retGN X0 hx Bd.notSynchronized Bd.returns (t := .boolean) (by simp) (z' := (1 : Int32)) rfl (hb hby d12_18) ⟨by first | (simp only [f12, if_pos hc4, if_pos hc5]; done) | rfl | (simp [f12, if_pos hc4, if_pos hc5]; done), N0, e0⟩ (by decide) (by decide)
    · refine Go.step (fun t k => XS.icmpYes X0.here hx rfl (pc0 := 10) (pc' := 17) rfl (hb hby d12_10) rfl (feq hc5).2 (by decide) (by decide) k) ?_
      show Go p e below _ (s₁.setTop (mkF m 17 _ []))
      refine gC (q := 18) (v := 0) X0 hx (hb hby d12_17) rfl rfl ?_
      exact retGN X0 hx Bd.notSynchronized Bd.returns (t := .boolean) (by simp) (z' := (0 : Int32)) rfl (hb hby d12_18) ⟨by first | (simp only [f12, if_pos hc4, if_neg hc5]; done) | rfl | (simp [f12, if_pos hc4, if_neg hc5]; done), N0, e0⟩ (by decide) (by decide)
  · refine Go.step (fun t k => XS.icmpYes X0.here hx rfl (pc0 := 3) (pc' := 17) rfl (hb hby d12_3) rfl (flt hc4).2.1 (by decide) (by decide) k) ?_
    show Go p e below _ (s₁.setTop (mkF m 17 _ []))
    refine gC (q := 18) (v := 0) X0 hx (hb hby d12_17) rfl rfl ?_
    exact retGN X0 hx Bd.notSynchronized Bd.returns (t := .boolean) (by simp) (z' := (0 : Int32)) rfl (hb hby d12_18) ⟨by first | (simp only [f12, if_neg hc4]; done) | rfl | (simp [f12, if_neg hc4]; done), N0, e0⟩ (by decide) (by decide)
theorem d5_0 : decode method_9_code 0 = .ok (.iload_n 3, 1) := by decide +kernel
theorem d5_1 : decode method_9_code 1 = .ok (.iload_n 2, 1) := by decide +kernel
theorem d5_2 : decode method_9_code 2 = .ok (.if_icmp .lt 5, 3) := by decide +kernel
theorem d5_5 : decode method_9_code 5 = .ok (.iconst 1, 1) := by decide +kernel
theorem d5_6 : decode method_9_code 6 = .ok (.ireturn, 1) := by decide +kernel
theorem ef_5_ge (m : MethodId) (a1 : Addr) (p2 : Int32) (p3 : Int32) (p4 : Int32) : entryFrame m #[(.ref a1), (.int p2), (.int p3), (.int p4)] 7 = mkF m 0 #[.val (.ref a1), .val (.int p2), .val (.int p3), .val (.int p4), .unset, .unset, .unset] [] := by first | (simp [entryFrame, mkF, argsToLocals, Value.category]; done) | rfl
def f5_ge (p2 : Int32) (p3 : Int32) (p4 : Int32) : Int32 := (1 : Int32)
set_option maxRecDepth 65536 in
set_option maxHeartbeats 40000000 in
theorem rm5_ge (l : Launch) (Z : State) (a0 : Array Value) (hw : ∀ d ∈ tables_1, d.before a0 Z = true) (ws : List Jvm.Cond) (a1 : Addr) (p2 : Int32) (p3 : Int32) (p4 : Int32) (h0 : Heap) (n0 : Nat) (Z0 : n0 ≤ h0.size) (hp2 : ¬ (p4 < p3)) :
    MetFree l (⟨"com/example/hertzbid/hertzbid/ConflictPairsNeighboursPinLaw", "row", "([[IIII)Z"⟩ : MethodName) (head1 (Jvm.Cond.code (⟨"com/example/hertzbid/hertzbid/ConflictPairsNeighboursPinLaw", "row", "([[IIII)Z"⟩ : MethodName) method_9_code 7 (some .boolean) :: ws) ({ frames := 0, cells := 0, slots := 0, locals := 0 } : Room)) (fun a U => a = #[(.ref a1), (.int p2), (.int p3), (.int p4)] ∧ Z.Warmed39 U.vm ∧ U.heap = h0) (fun _ _ _ _ _ => True) (fun _ U o U' => ∃ v L, o = .returned v ∧ QP (.int (f5_ge p2 p3 p4)) h0 n0 v U'.heap L ∧ FrameEnd U o U' L ({ frames := 0, cells := 0, slots := 0, locals := 0 } : Room).cells ({ frames := 0, cells := 0, slots := 0, locals := 0 } : Room).slots) := by
  refine MetFree.of_bodySF (plainFor_of_name pn_0) hisR ?_
  intro p e s m args below meth c s₁ Bd hml0 hP hK
  obtain ⟨rfl, hZ, hh⟩ := hP
  have hx := Bd.exec
  have hby := Bd.bytes
  have hml : c.maxLocals = 7 := hml0
  have hown : s.vm.findClass "com/example/hertzbid/hertzbid/ConflictPairsNeighboursPinLaw" = some m.cls := findClass_of_methodNamed Bd.named
  have hnm := (name_of_methodNamed Bd.named Bd.method).1
  have X0 : Stand p l e ({ frames := 0, cells := 0, slots := 0, locals := 0 } : Room) s m #[(.ref a1), (.int p2), (.int p3), (.int p4)] below meth c s₁ [] 0 0 := Stand.of_body Bd
  have e0 : s₁.heap = h0 := by rw [← hh, Bd.state]; rfl
  have N0 := Fr.nil n0
  refine Go.done (Go.step (fun t k => castTop (ef_5_ge m a1 p2 p3 p4) k) ?_)
  have KK0 : Keep h0 h0 [] := Keep.refl _ _
  show Go p e below _ (s₁.setTop (mkF m 0 _ []))
  refine gI (q := 1) X0 hx (hb hby d5_0) rfl rfl ?_
  refine gI (q := 2) X0 hx (hb hby d5_1) rfl rfl ?_
  refine Go.step (fun t k => XS.icmpNo X0.here hx rfl (hb hby d5_2) rfl (flt hp2).1 k) ?_
  show Go p e below _ (s₁.setTop (mkF m 5 _ []))
  refine gC (q := 6) (v := 1) X0 hx (hb hby d5_5) rfl rfl ?_
  exact retGN X0 hx Bd.notSynchronized Bd.returns (t := .boolean) (by simp) (z' := (1 : Int32)) rfl (hb hby d5_6) ⟨by first | rfl | (simp only [f5_ge]; done) | (simp [f5_ge]; done), N0, e0⟩ (by decide) (by decide)
theorem d5_7 : decode method_9_code 7 = .ok (.aload_n 0, 1) := by decide +kernel
theorem d5_8 : decode method_9_code 8 = .ok (.iload_n 3, 1) := by decide +kernel
theorem d5_9 : decode method_9_code 9 = .ok (.aaload, 1) := by decide +kernel
theorem d5_10 : decode method_9_code 10 = .ok (.astore 4, 2) := by decide +kernel
theorem d5_12 : decode method_9_code 12 = .ok (.aload 4, 2) := by decide +kernel
theorem d5_14 : decode method_9_code 14 = .ok (.ifnonnull 5, 3) := by decide +kernel
theorem d5_19 : decode method_9_code 19 = .ok (.iconst 0, 1) := by decide +kernel
theorem d5_20 : decode method_9_code 20 = .ok (.istore 5, 2) := by decide +kernel
theorem d5_22 : decode method_9_code 22 = .ok (.iconst 1, 1) := by decide +kernel
theorem d5_23 : decode method_9_code 23 = .ok (.istore 6, 2) := by decide +kernel
theorem d5_25 : decode method_9_code 25 = .ok (.iload_n 1, 1) := by decide +kernel
theorem d5_26 : decode method_9_code 26 = .ok (.iload_n 2, 1) := by decide +kernel
theorem d5_27 : decode method_9_code 27 = .ok (.iload_n 3, 1) := by decide +kernel
theorem d5_28 : decode method_9_code 28 = .ok (.iconst 0, 1) := by decide +kernel
theorem d5_29 : decode method_9_code 29 = .ok (.invokestatic 44, 3) := by decide +kernel
theorem d5_32 : decode method_9_code 32 = .ok (.ifCond .eq 29, 3) := by decide +kernel
theorem d5_35 : decode method_9_code 35 = .ok (.iload 6, 2) := by decide +kernel
theorem d5_37 : decode method_9_code 37 = .ok (.ifCond .eq 18, 3) := by decide +kernel
theorem d5_40 : decode method_9_code 40 = .ok (.aload 4, 2) := by decide +kernel
theorem d5_42 : decode method_9_code 42 = .ok (.iload 5, 2) := by decide +kernel
theorem d5_44 : decode method_9_code 44 = .ok (.iconst 0, 1) := by decide +kernel
theorem d5_45 : decode method_9_code 45 = .ok (.invokestatic 47, 3) := by decide +kernel
theorem pd_3 : parseMethodDescriptor "([III)Z" = some ⟨[(.array .int), .int, .int], some .boolean⟩ := by decide +kernel
theorem d5_48 : decode method_9_code 48 = .ok (.ifCond .eq 7, 3) := by decide +kernel
theorem d5_55 : decode method_9_code 55 = .ok (.iconst 0, 1) := by decide +kernel
theorem d5_51 : decode method_9_code 51 = .ok (.iconst 1, 1) := by decide +kernel
theorem d5_52 : decode method_9_code 52 = .ok (.goto 4, 3) := by decide +kernel
theorem d5_56 : decode method_9_code 56 = .ok (.istore 6, 2) := by decide +kernel
theorem d5_58 : decode method_9_code 58 = .ok (.iinc 5 1, 3) := by decide +kernel
theorem d5_61 : decode method_9_code 61 = .ok (.iload_n 1, 1) := by decide +kernel
theorem d5_62 : decode method_9_code 62 = .ok (.iload_n 2, 1) := by decide +kernel
theorem d5_63 : decode method_9_code 63 = .ok (.iload_n 3, 1) := by decide +kernel
theorem d5_64 : decode method_9_code 64 = .ok (.iconst 1, 1) := by decide +kernel
theorem d5_65 : decode method_9_code 65 = .ok (.invokestatic 44, 3) := by decide +kernel
theorem d5_68 : decode method_9_code 68 = .ok (.ifCond .eq 29, 3) := by decide +kernel
theorem d5_71 : decode method_9_code 71 = .ok (.iload 6, 2) := by decide +kernel
theorem d5_73 : decode method_9_code 73 = .ok (.ifCond .eq 18, 3) := by decide +kernel
theorem d5_91 : decode method_9_code 91 = .ok (.iconst 0, 1) := by decide +kernel
theorem d5_76 : decode method_9_code 76 = .ok (.aload 4, 2) := by decide +kernel
theorem d5_78 : decode method_9_code 78 = .ok (.iload 5, 2) := by decide +kernel
theorem d5_80 : decode method_9_code 80 = .ok (.iconst 1, 1) := by decide +kernel
theorem d5_81 : decode method_9_code 81 = .ok (.invokestatic 47, 3) := by decide +kernel
theorem d5_84 : decode method_9_code 84 = .ok (.ifCond .eq 7, 3) := by decide +kernel
theorem d5_87 : decode method_9_code 87 = .ok (.iconst 1, 1) := by decide +kernel
theorem d5_88 : decode method_9_code 88 = .ok (.goto 4, 3) := by decide +kernel
theorem d5_92 : decode method_9_code 92 = .ok (.istore 6, 2) := by decide +kernel
theorem d5_94 : decode method_9_code 94 = .ok (.iinc 5 1, 3) := by decide +kernel
theorem d5_97 : decode method_9_code 97 = .ok (.iload_n 1, 1) := by decide +kernel
theorem d5_98 : decode method_9_code 98 = .ok (.iload_n 2, 1) := by decide +kernel
theorem d5_99 : decode method_9_code 99 = .ok (.iload_n 3, 1) := by decide +kernel
theorem d5_100 : decode method_9_code 100 = .ok (.iconst 2, 1) := by decide +kernel
theorem d5_101 : decode method_9_code 101 = .ok (.invokestatic 44, 3) := by decide +kernel
theorem d5_104 : decode method_9_code 104 = .ok (.ifCond .eq 29, 3) := by decide +kernel
theorem d5_107 : decode method_9_code 107 = .ok (.iload 6, 2) := by decide +kernel
theorem d5_109 : decode method_9_code 109 = .ok (.ifCond .eq 18, 3) := by decide +kernel
theorem d5_127 : decode method_9_code 127 = .ok (.iconst 0, 1) := by decide +kernel
theorem d5_112 : decode method_9_code 112 = .ok (.aload 4, 2) := by decide +kernel
theorem d5_114 : decode method_9_code 114 = .ok (.iload 5, 2) := by decide +kernel
theorem d5_116 : decode method_9_code 116 = .ok (.iconst 2, 1) := by decide +kernel
theorem d5_117 : decode method_9_code 117 = .ok (.invokestatic 47, 3) := by decide +kernel
theorem d5_120 : decode method_9_code 120 = .ok (.ifCond .eq 7, 3) := by decide +kernel
theorem d5_123 : decode method_9_code 123 = .ok (.iconst 1, 1) := by decide +kernel
theorem d5_124 : decode method_9_code 124 = .ok (.goto 4, 3) := by decide +kernel
theorem d5_128 : decode method_9_code 128 = .ok (.istore 6, 2) := by decide +kernel
theorem d5_130 : decode method_9_code 130 = .ok (.iinc 5 1, 3) := by decide +kernel
theorem d5_133 : decode method_9_code 133 = .ok (.iload_n 1, 1) := by decide +kernel
theorem d5_134 : decode method_9_code 134 = .ok (.iload_n 2, 1) := by decide +kernel
theorem d5_135 : decode method_9_code 135 = .ok (.iload_n 3, 1) := by decide +kernel
theorem d5_136 : decode method_9_code 136 = .ok (.iconst 3, 1) := by decide +kernel
theorem d5_137 : decode method_9_code 137 = .ok (.invokestatic 44, 3) := by decide +kernel
theorem d5_140 : decode method_9_code 140 = .ok (.ifCond .eq 29, 3) := by decide +kernel
theorem d5_143 : decode method_9_code 143 = .ok (.iload 6, 2) := by decide +kernel
theorem d5_145 : decode method_9_code 145 = .ok (.ifCond .eq 18, 3) := by decide +kernel
theorem d5_163 : decode method_9_code 163 = .ok (.iconst 0, 1) := by decide +kernel
theorem d5_148 : decode method_9_code 148 = .ok (.aload 4, 2) := by decide +kernel
theorem d5_150 : decode method_9_code 150 = .ok (.iload 5, 2) := by decide +kernel
theorem d5_152 : decode method_9_code 152 = .ok (.iconst 3, 1) := by decide +kernel
theorem d5_153 : decode method_9_code 153 = .ok (.invokestatic 47, 3) := by decide +kernel
theorem d5_156 : decode method_9_code 156 = .ok (.ifCond .eq 7, 3) := by decide +kernel
theorem d5_159 : decode method_9_code 159 = .ok (.iconst 1, 1) := by decide +kernel
theorem d5_160 : decode method_9_code 160 = .ok (.goto 4, 3) := by decide +kernel
theorem d5_164 : decode method_9_code 164 = .ok (.istore 6, 2) := by decide +kernel
theorem d5_166 : decode method_9_code 166 = .ok (.iinc 5 1, 3) := by decide +kernel
theorem d5_169 : decode method_9_code 169 = .ok (.iload_n 1, 1) := by decide +kernel
theorem d5_170 : decode method_9_code 170 = .ok (.iload_n 2, 1) := by decide +kernel
theorem d5_171 : decode method_9_code 171 = .ok (.iload_n 3, 1) := by decide +kernel
theorem d5_172 : decode method_9_code 172 = .ok (.iconst 4, 1) := by decide +kernel
theorem d5_173 : decode method_9_code 173 = .ok (.invokestatic 44, 3) := by decide +kernel
theorem d5_176 : decode method_9_code 176 = .ok (.ifCond .eq 29, 3) := by decide +kernel
theorem d5_179 : decode method_9_code 179 = .ok (.iload 6, 2) := by decide +kernel
theorem d5_181 : decode method_9_code 181 = .ok (.ifCond .eq 18, 3) := by decide +kernel
theorem d5_199 : decode method_9_code 199 = .ok (.iconst 0, 1) := by decide +kernel
theorem d5_184 : decode method_9_code 184 = .ok (.aload 4, 2) := by decide +kernel
theorem d5_186 : decode method_9_code 186 = .ok (.iload 5, 2) := by decide +kernel
theorem d5_188 : decode method_9_code 188 = .ok (.iconst 4, 1) := by decide +kernel
theorem d5_189 : decode method_9_code 189 = .ok (.invokestatic 47, 3) := by decide +kernel
theorem d5_192 : decode method_9_code 192 = .ok (.ifCond .eq 7, 3) := by decide +kernel
theorem d5_195 : decode method_9_code 195 = .ok (.iconst 1, 1) := by decide +kernel
theorem d5_196 : decode method_9_code 196 = .ok (.goto 4, 3) := by decide +kernel
theorem d5_200 : decode method_9_code 200 = .ok (.istore 6, 2) := by decide +kernel
theorem d5_202 : decode method_9_code 202 = .ok (.iinc 5 1, 3) := by decide +kernel
theorem d5_205 : decode method_9_code 205 = .ok (.iload 6, 2) := by decide +kernel
theorem d5_207 : decode method_9_code 207 = .ok (.ifCond .eq 15, 3) := by decide +kernel
theorem d5_222 : decode method_9_code 222 = .ok (.iconst 0, 1) := by decide +kernel
theorem d5_223 : decode method_9_code 223 = .ok (.ireturn, 1) := by decide +kernel
theorem d5_210 : decode method_9_code 210 = .ok (.iload 5, 2) := by decide +kernel
theorem d5_212 : decode method_9_code 212 = .ok (.aload 4, 2) := by decide +kernel
theorem d5_214 : decode method_9_code 214 = .ok (.arraylength, 1) := by decide +kernel
theorem d5_215 : decode method_9_code 215 = .ok (.if_icmp .ne 7, 3) := by decide +kernel
theorem d5_218 : decode method_9_code 218 = .ok (.iconst 1, 1) := by decide +kernel
theorem d5_219 : decode method_9_code 219 = .ok (.goto 4, 3) := by decide +kernel
theorem ef_5 (m : MethodId) (a1 : Addr) (p2 : Int32) (p3 : Int32) (p4 : Int32) : entryFrame m #[(.ref a1), (.int p2), (.int p3), (.int p4)] 7 = mkF m 0 #[.val (.ref a1), .val (.int p2), .val (.int p3), .val (.int p4), .unset, .unset, .unset] [] := by first | (simp [entryFrame, mkF, argsToLocals, Value.category]; done) | rfl
def f5 (p2 : Int32) (p3 : Int32) (p4 : Int32) (ll : List Nat) : Int32 := (if (if (f9 p2 p3 p4 (4 : Int32)) = (0 : Int32) then (if (f9 p2 p3 p4 (3 : Int32)) = (0 : Int32) then (if (f9 p2 p3 p4 (2 : Int32)) = (0 : Int32) then (if (f9 p2 p3 p4 (1 : Int32)) = (0 : Int32) then (if (f9 p2 p3 p4 (0 : Int32)) = (0 : Int32) then (1 : Int32) else (if (f12 (0 : Int32) (0 : Int32) ll) = (0 : Int32) then (0 : Int32) else (1 : Int32))) else (if (if (f9 p2 p3 p4 (0 : Int32)) = (0 : Int32) then (1 : Int32) else (if (f12 (0 : Int32) (0 : Int32) ll) = (0 : Int32) then (0 : Int32) else (1 : Int32))) = (0 : Int32) then (0 : Int32) else (if (f12 (if (f9 p2 p3 p4 (0 : Int32)) = (0 : Int32) then (0 : Int32) else (1 : Int32)) (1 : Int32) ll) = (0 : Int32) then (0 : Int32) else (1 : Int32)))) else (if (if (f9 p2 p3 p4 (1 : Int32)) = (0 : Int32) then (if (f9 p2 p3 p4 (0 : Int32)) = (0 : Int32) then (1 : Int32) else (if (f12 (0 : Int32) (0 : Int32) ll) = (0 : Int32) then (0 : Int32) else (1 : Int32))) else (if (if (f9 p2 p3 p4 (0 : Int32)) = (0 : Int32) then (1 : Int32) else (if (f12 (0 : Int32) (0 : Int32) ll) = (0 : Int32) then (0 : Int32) else (1 : Int32))) = (0 : Int32) then (0 : Int32) else (if (f12 (if (f9 p2 p3 p4 (0 : Int32)) = (0 : Int32) then (0 : Int32) else (1 : Int32)) (1 : Int32) ll) = (0 : Int32) then (0 : Int32) else (1 : Int32)))) = (0 : Int32) then (0 : Int32) else (if (f12 (if (f9 p2 p3 p4 (1 : Int32)) = (0 : Int32) then (if (f9 p2 p3 p4 (0 : Int32)) = (0 : Int32) then (0 : Int32) else (1 : Int32)) else ((if (f9 p2 p3 p4 (0 : Int32)) = (0 : Int32) then (0 : Int32) else (1 : Int32)) + (1 : Int32))) (2 : Int32) ll) = (0 : Int32) then (0 : Int32) else (1 : Int32)))) else (if (if (f9 p2 p3 p4 (2 : Int32)) = (0 : Int32) then (if (f9 p2 p3 p4 (1 : Int32)) = (0 : Int32) then (if (f9 p2 p3 p4 (0 : Int32)) = (0 : Int32) then (1 : Int32) else (if (f12 (0 : Int32) (0 : Int32) ll) = (0 : Int32) then (0 : Int32) else (1 : Int32))) else (if (if (f9 p2 p3 p4 (0 : Int32)) = (0 : Int32) then (1 : Int32) else (if (f12 (0 : Int32) (0 : Int32) ll) = (0 : Int32) then (0 : Int32) else (1 : Int32))) = (0 : Int32) then (0 : Int32) else (if (f12 (if (f9 p2 p3 p4 (0 : Int32)) = (0 : Int32) then (0 : Int32) else (1 : Int32)) (1 : Int32) ll) = (0 : Int32) then (0 : Int32) else (1 : Int32)))) else (if (if (f9 p2 p3 p4 (1 : Int32)) = (0 : Int32) then (if (f9 p2 p3 p4 (0 : Int32)) = (0 : Int32) then (1 : Int32) else (if (f12 (0 : Int32) (0 : Int32) ll) = (0 : Int32) then (0 : Int32) else (1 : Int32))) else (if (if (f9 p2 p3 p4 (0 : Int32)) = (0 : Int32) then (1 : Int32) else (if (f12 (0 : Int32) (0 : Int32) ll) = (0 : Int32) then (0 : Int32) else (1 : Int32))) = (0 : Int32) then (0 : Int32) else (if (f12 (if (f9 p2 p3 p4 (0 : Int32)) = (0 : Int32) then (0 : Int32) else (1 : Int32)) (1 : Int32) ll) = (0 : Int32) then (0 : Int32) else (1 : Int32)))) = (0 : Int32) then (0 : Int32) else (if (f12 (if (f9 p2 p3 p4 (1 : Int32)) = (0 : Int32) then (if (f9 p2 p3 p4 (0 : Int32)) = (0 : Int32) then (0 : Int32) else (1 : Int32)) else ((if (f9 p2 p3 p4 (0 : Int32)) = (0 : Int32) then (0 : Int32) else (1 : Int32)) + (1 : Int32))) (2 : Int32) ll) = (0 : Int32) then (0 : Int32) else (1 : Int32)))) = (0 : Int32) then (0 : Int32) else (if (f12 (if (f9 p2 p3 p4 (2 : Int32)) = (0 : Int32) then (if (f9 p2 p3 p4 (1 : Int32)) = (0 : Int32) then (if (f9 p2 p3 p4 (0 : Int32)) = (0 : Int32) then (0 : Int32) else (1 : Int32)) else ((if (f9 p2 p3 p4 (0 : Int32)) = (0 : Int32) then (0 : Int32) else (1 : Int32)) + (1 : Int32))) else ((if (f9 p2 p3 p4 (1 : Int32)) = (0 : Int32) then (if (f9 p2 p3 p4 (0 : Int32)) = (0 : Int32) then (0 : Int32) else (1 : Int32)) else ((if (f9 p2 p3 p4 (0 : Int32)) = (0 : Int32) then (0 : Int32) else (1 : Int32)) + (1 : Int32))) + (1 : Int32))) (3 : Int32) ll) = (0 : Int32) then (0 : Int32) else (1 : Int32)))) else (if (if (f9 p2 p3 p4 (3 : Int32)) = (0 : Int32) then (if (f9 p2 p3 p4 (2 : Int32)) = (0 : Int32) then (if (f9 p2 p3 p4 (1 : Int32)) = (0 : Int32) then (if (f9 p2 p3 p4 (0 : Int32)) = (0 : Int32) then (1 : Int32) else (if (f12 (0 : Int32) (0 : Int32) ll) = (0 : Int32) then (0 : Int32) else (1 : Int32))) else (if (if (f9 p2 p3 p4 (0 : Int32)) = (0 : Int32) then (1 : Int32) else (if (f12 (0 : Int32) (0 : Int32) ll) = (0 : Int32) then (0 : Int32) else (1 : Int32))) = (0 : Int32) then (0 : Int32) else (if (f12 (if (f9 p2 p3 p4 (0 : Int32)) = (0 : Int32) then (0 : Int32) else (1 : Int32)) (1 : Int32) ll) = (0 : Int32) then (0 : Int32) else (1 : Int32)))) else (if (if (f9 p2 p3 p4 (1 : Int32)) = (0 : Int32) then (if (f9 p2 p3 p4 (0 : Int32)) = (0 : Int32) then (1 : Int32) else (if (f12 (0 : Int32) (0 : Int32) ll) = (0 : Int32) then (0 : Int32) else (1 : Int32))) else (if (if (f9 p2 p3 p4 (0 : Int32)) = (0 : Int32) then (1 : Int32) else (if (f12 (0 : Int32) (0 : Int32) ll) = (0 : Int32) then (0 : Int32) else (1 : Int32))) = (0 : Int32) then (0 : Int32) else (if (f12 (if (f9 p2 p3 p4 (0 : Int32)) = (0 : Int32) then (0 : Int32) else (1 : Int32)) (1 : Int32) ll) = (0 : Int32) then (0 : Int32) else (1 : Int32)))) = (0 : Int32) then (0 : Int32) else (if (f12 (if (f9 p2 p3 p4 (1 : Int32)) = (0 : Int32) then (if (f9 p2 p3 p4 (0 : Int32)) = (0 : Int32) then (0 : Int32) else (1 : Int32)) else ((if (f9 p2 p3 p4 (0 : Int32)) = (0 : Int32) then (0 : Int32) else (1 : Int32)) + (1 : Int32))) (2 : Int32) ll) = (0 : Int32) then (0 : Int32) else (1 : Int32)))) else (if (if (f9 p2 p3 p4 (2 : Int32)) = (0 : Int32) then (if (f9 p2 p3 p4 (1 : Int32)) = (0 : Int32) then (if (f9 p2 p3 p4 (0 : Int32)) = (0 : Int32) then (1 : Int32) else (if (f12 (0 : Int32) (0 : Int32) ll) = (0 : Int32) then (0 : Int32) else (1 : Int32))) else (if (if (f9 p2 p3 p4 (0 : Int32)) = (0 : Int32) then (1 : Int32) else (if (f12 (0 : Int32) (0 : Int32) ll) = (0 : Int32) then (0 : Int32) else (1 : Int32))) = (0 : Int32) then (0 : Int32) else (if (f12 (if (f9 p2 p3 p4 (0 : Int32)) = (0 : Int32) then (0 : Int32) else (1 : Int32)) (1 : Int32) ll) = (0 : Int32) then (0 : Int32) else (1 : Int32)))) else (if (if (f9 p2 p3 p4 (1 : Int32)) = (0 : Int32) then (if (f9 p2 p3 p4 (0 : Int32)) = (0 : Int32) then (1 : Int32) else (if (f12 (0 : Int32) (0 : Int32) ll) = (0 : Int32) then (0 : Int32) else (1 : Int32))) else (if (if (f9 p2 p3 p4 (0 : Int32)) = (0 : Int32) then (1 : Int32) else (if (f12 (0 : Int32) (0 : Int32) ll) = (0 : Int32) then (0 : Int32) else (1 : Int32))) = (0 : Int32) then (0 : Int32) else (if (f12 (if (f9 p2 p3 p4 (0 : Int32)) = (0 : Int32) then (0 : Int32) else (1 : Int32)) (1 : Int32) ll) = (0 : Int32) then (0 : Int32) else (1 : Int32)))) = (0 : Int32) then (0 : Int32) else (if (f12 (if (f9 p2 p3 p4 (1 : Int32)) = (0 : Int32) then (if (f9 p2 p3 p4 (0 : Int32)) = (0 : Int32) then (0 : Int32) else (1 : Int32)) else ((if (f9 p2 p3 p4 (0 : Int32)) = (0 : Int32) then (0 : Int32) else (1 : Int32)) + (1 : Int32))) (2 : Int32) ll) = (0 : Int32) then (0 : Int32) else (1 : Int32)))) = (0 : Int32) then (0 : Int32) else (if (f12 (if (f9 p2 p3 p4 (2 : Int32)) = (0 : Int32) then (if (f9 p2 p3 p4 (1 : Int32)) = (0 : Int32) then (if (f9 p2 p3 p4 (0 : Int32)) = (0 : Int32) then (0 : Int32) else (1 : Int32)) else ((if (f9 p2 p3 p4 (0 : Int32)) = (0 : Int32) then (0 : Int32) else (1 : Int32)) + (1 : Int32))) else ((if (f9 p2 p3 p4 (1 : Int32)) = (0 : Int32) then (if (f9 p2 p3 p4 (0 : Int32)) = (0 : Int32) then (0 : Int32) else (1 : Int32)) else ((if (f9 p2 p3 p4 (0 : Int32)) = (0 : Int32) then (0 : Int32) else (1 : Int32)) + (1 : Int32))) + (1 : Int32))) (3 : Int32) ll) = (0 : Int32) then (0 : Int32) else (1 : Int32)))) = (0 : Int32) then (0 : Int32) else (if (f12 (if (f9 p2 p3 p4 (3 : Int32)) = (0 : Int32) then (if (f9 p2 p3 p4 (2 : Int32)) = (0 : Int32) then (if (f9 p2 p3 p4 (1 : Int32)) = (0 : Int32) then (if (f9 p2 p3 p4 (0 : Int32)) = (0 : Int32) then (0 : Int32) else (1 : Int32)) else ((if (f9 p2 p3 p4 (0 : Int32)) = (0 : Int32) then (0 : Int32) else (1 : Int32)) + (1 : Int32))) else ((if (f9 p2 p3 p4 (1 : Int32)) = (0 : Int32) then (if (f9 p2 p3 p4 (0 : Int32)) = (0 : Int32) then (0 : Int32) else (1 : Int32)) else ((if (f9 p2 p3 p4 (0 : Int32)) = (0 : Int32) then (0 : Int32) else (1 : Int32)) + (1 : Int32))) + (1 : Int32))) else ((if (f9 p2 p3 p4 (2 : Int32)) = (0 : Int32) then (if (f9 p2 p3 p4 (1 : Int32)) = (0 : Int32) then (if (f9 p2 p3 p4 (0 : Int32)) = (0 : Int32) then (0 : Int32) else (1 : Int32)) else ((if (f9 p2 p3 p4 (0 : Int32)) = (0 : Int32) then (0 : Int32) else (1 : Int32)) + (1 : Int32))) else ((if (f9 p2 p3 p4 (1 : Int32)) = (0 : Int32) then (if (f9 p2 p3 p4 (0 : Int32)) = (0 : Int32) then (0 : Int32) else (1 : Int32)) else ((if (f9 p2 p3 p4 (0 : Int32)) = (0 : Int32) then (0 : Int32) else (1 : Int32)) + (1 : Int32))) + (1 : Int32))) + (1 : Int32))) (4 : Int32) ll) = (0 : Int32) then (0 : Int32) else (1 : Int32)))) = (0 : Int32) then (0 : Int32) else (if (if (f9 p2 p3 p4 (4 : Int32)) = (0 : Int32) then (if (f9 p2 p3 p4 (3 : Int32)) = (0 : Int32) then (if (f9 p2 p3 p4 (2 : Int32)) = (0 : Int32) then (if (f9 p2 p3 p4 (1 : Int32)) = (0 : Int32) then (if (f9 p2 p3 p4 (0 : Int32)) = (0 : Int32) then (0 : Int32) else (1 : Int32)) else ((if (f9 p2 p3 p4 (0 : Int32)) = (0 : Int32) then (0 : Int32) else (1 : Int32)) + (1 : Int32))) else ((if (f9 p2 p3 p4 (1 : Int32)) = (0 : Int32) then (if (f9 p2 p3 p4 (0 : Int32)) = (0 : Int32) then (0 : Int32) else (1 : Int32)) else ((if (f9 p2 p3 p4 (0 : Int32)) = (0 : Int32) then (0 : Int32) else (1 : Int32)) + (1 : Int32))) + (1 : Int32))) else ((if (f9 p2 p3 p4 (2 : Int32)) = (0 : Int32) then (if (f9 p2 p3 p4 (1 : Int32)) = (0 : Int32) then (if (f9 p2 p3 p4 (0 : Int32)) = (0 : Int32) then (0 : Int32) else (1 : Int32)) else ((if (f9 p2 p3 p4 (0 : Int32)) = (0 : Int32) then (0 : Int32) else (1 : Int32)) + (1 : Int32))) else ((if (f9 p2 p3 p4 (1 : Int32)) = (0 : Int32) then (if (f9 p2 p3 p4 (0 : Int32)) = (0 : Int32) then (0 : Int32) else (1 : Int32)) else ((if (f9 p2 p3 p4 (0 : Int32)) = (0 : Int32) then (0 : Int32) else (1 : Int32)) + (1 : Int32))) + (1 : Int32))) + (1 : Int32))) else ((if (f9 p2 p3 p4 (3 : Int32)) = (0 : Int32) then (if (f9 p2 p3 p4 (2 : Int32)) = (0 : Int32) then (if (f9 p2 p3 p4 (1 : Int32)) = (0 : Int32) then (if (f9 p2 p3 p4 (0 : Int32)) = (0 : Int32) then (0 : Int32) else (1 : Int32)) else ((if (f9 p2 p3 p4 (0 : Int32)) = (0 : Int32) then (0 : Int32) else (1 : Int32)) + (1 : Int32))) else ((if (f9 p2 p3 p4 (1 : Int32)) = (0 : Int32) then (if (f9 p2 p3 p4 (0 : Int32)) = (0 : Int32) then (0 : Int32) else (1 : Int32)) else ((if (f9 p2 p3 p4 (0 : Int32)) = (0 : Int32) then (0 : Int32) else (1 : Int32)) + (1 : Int32))) + (1 : Int32))) else ((if (f9 p2 p3 p4 (2 : Int32)) = (0 : Int32) then (if (f9 p2 p3 p4 (1 : Int32)) = (0 : Int32) then (if (f9 p2 p3 p4 (0 : Int32)) = (0 : Int32) then (0 : Int32) else (1 : Int32)) else ((if (f9 p2 p3 p4 (0 : Int32)) = (0 : Int32) then (0 : Int32) else (1 : Int32)) + (1 : Int32))) else ((if (f9 p2 p3 p4 (1 : Int32)) = (0 : Int32) then (if (f9 p2 p3 p4 (0 : Int32)) = (0 : Int32) then (0 : Int32) else (1 : Int32)) else ((if (f9 p2 p3 p4 (0 : Int32)) = (0 : Int32) then (0 : Int32) else (1 : Int32)) + (1 : Int32))) + (1 : Int32))) + (1 : Int32))) + (1 : Int32))) = ll.length.toInt32 then (1 : Int32) else (0 : Int32)))
set_option maxRecDepth 65536 in
set_option maxHeartbeats 40000000 in
theorem rm5 (l : Launch) (Z : State) (a0 : Array Value) (hw : ∀ d ∈ tables_1, d.before a0 Z = true) (ws : List Jvm.Cond) (a1 : Addr) (p2 : Int32) (p3 : Int32) (p4 : Int32) (nn : Nat) (gO : Nat → Value) (yy : Addr) (ll : List Nat) (h0 : Heap) (n0 : Nat) (Z0 : n0 ≤ h0.size) (hr0 : ¬ p4 < (0 : Int32)) (hr1 : p4.toNatClampNeg < nn) (hr2 : gO p4.toNatClampNeg = .ref yy) (A_a1 : RAry Z h0 a1 (.array .int) "[I" nn gO) (A_yy : Ary Z h0 yy .int ll.length (fun i => .int ((rowF ll) i))) (hp2 : p4 < p3) :
    MetFree l (⟨"com/example/hertzbid/hertzbid/ConflictPairsNeighboursPinLaw", "row", "([[IIII)Z"⟩ : MethodName) (head1 (Jvm.Cond.code (⟨"com/example/hertzbid/hertzbid/ConflictPairsNeighboursPinLaw", "row", "([[IIII)Z"⟩ : MethodName) method_9_code 7 (some .boolean) :: ws) ({ frames := 3, cells := 0, slots := 0, locals := 44 } : Room)) (fun a U => a = #[(.ref a1), (.int p2), (.int p3), (.int p4)] ∧ Z.Warmed39 U.vm ∧ U.heap = h0) (fun _ _ _ _ _ => True) (fun _ U o U' => ∃ v L, o = .returned v ∧ QP (.int (f5 p2 p3 p4 ll)) h0 n0 v U'.heap L ∧ FrameEnd U o U' L ({ frames := 3, cells := 0, slots := 0, locals := 44 } : Room).cells ({ frames := 3, cells := 0, slots := 0, locals := 44 } : Room).slots) := by
  refine MetFree.of_bodySF (plainFor_of_name pn_0) hisR ?_
  intro p e s m args below meth c s₁ Bd hml0 hP hK
  obtain ⟨rfl, hZ, hh⟩ := hP
  have hx := Bd.exec
  have hby := Bd.bytes
  have hml : c.maxLocals = 7 := hml0
  have hown : s.vm.findClass "com/example/hertzbid/hertzbid/ConflictPairsNeighboursPinLaw" = some m.cls := findClass_of_methodNamed Bd.named
  have hnm := (name_of_methodNamed Bd.named Bd.method).1
  have X0 : Stand p l e ({ frames := 3, cells := 0, slots := 0, locals := 44 } : Room) s m #[(.ref a1), (.int p2), (.int p3), (.int p4)] below meth c s₁ [] 0 0 := Stand.of_body Bd
  have e0 : s₁.heap = h0 := by rw [← hh, Bd.state]; rfl
  have N0 := Fr.nil n0
  refine Go.done (Go.step (fun t k => castTop (ef_5 m a1 p2 p3 p4) k) ?_)
  have KK0 : Keep h0 h0 [] := Keep.refl _ _
  show Go p e below _ (s₁.setTop (mkF m 0 _ []))
  refine gI (q := 1) X0 hx (hb hby d5_0) rfl rfl ?_
  refine gI (q := 2) X0 hx (hb hby d5_1) rfl rfl ?_
  refine Go.step (fun t k => XS.icmpYes X0.here hx rfl (pc0 := 2) (pc' := 7) rfl (hb hby d5_2) rfl (tlt hp2).1 (by decide) (by decide) k) ?_
  show Go p e below _ (s₁.setTop (mkF m 7 _ []))
  refine gA (q := 8) X0 hx (hb hby d5_7) rfl rfl rfl ?_
  refine gI (q := 9) X0 hx (hb hby d5_8) rfl rfl ?_
  refine Go.step (ldR X0 hx hZ e0 A_a1.ary rfl (j := p4) hr0 hr1 (g := (mkF m 9 _ [(.int p4), (.ref a1)])) rfl rfl (hb hby d5_9)) ?_
  rw [hr2]
  show Go p e below _ (s₁.setTop (mkF m 10 _ [(.ref yy)]))
  refine Go.step (fun t k => XS.astore X0.here hx rfl (hb hby d5_10) rfl rfl (l' := #[.val (.ref a1), .val (.int p2), .val (.int p3), .val (.int p4), .val (.ref yy), .unset, .unset]) rfl k) ?_
  show Go p e below _ (s₁.setTop (mkF m 12 _ []))
  refine gB (q := 14) X0 hx (hb hby d5_12) rfl rfl rfl ?_
  refine Go.step (fun t k => XS.ifnonnullYes X0.here hx rfl (pc0 := 14) (pc' := 19) rfl (hb hby d5_14) rfl (by decide) (by decide) k) ?_
  show Go p e below _ (s₁.setTop (mkF m 19 _ []))
  refine gC (q := 20) (v := 0) X0 hx (hb hby d5_19) rfl rfl ?_
  refine Go.step (fun t k => XS.istore X0.here hx rfl (hb hby d5_20) rfl (l' := #[.val (.ref a1), .val (.int p2), .val (.int p3), .val (.int p4), .val (.ref yy), .val (.int (0 : Int32)), .unset]) rfl k) ?_
  show Go p e below _ (s₁.setTop (mkF m 22 _ []))
  refine gC (q := 23) (v := 1) X0 hx (hb hby d5_22) rfl rfl ?_
  refine Go.step (fun t k => XS.istore X0.here hx rfl (hb hby d5_23) rfl (l' := #[.val (.ref a1), .val (.int p2), .val (.int p3), .val (.int p4), .val (.ref yy), .val (.int (0 : Int32)), .val (.int (1 : Int32))]) rfl k) ?_
  show Go p e below _ (s₁.setTop (mkF m 25 _ []))
  refine gI (q := 26) X0 hx (hb hby d5_25) rfl rfl ?_
  refine gI (q := 27) X0 hx (hb hby d5_26) rfl rfl ?_
  refine gI (q := 28) X0 hx (hb hby d5_27) rfl rfl ?_
  refine gC (q := 29) (v := 0) X0 hx (hb hby d5_28) rfl rfl ?_
  obtain ⟨_, _, ⟨T5, L5, k5, n5⟩, -, X5, ⟨Lc5, hQ5, l5, y5, z5⟩, st5⟩ := Jvm.LawKit.callS X0 hx (y := (⟨"com/example/hertzbid/hertzbid/ConflictPairsNeighboursPinLaw", "adj", "(IIII)Z"⟩ : MethodName)) hown (mvT hZ (hw _ (List.mem_of_getElem? (i := 32) rfl))) (mvT hZ (hw _ (List.mem_of_getElem? (i := 33) rfl))) (mvT hZ (hw _ (List.mem_of_getElem? (i := 3) rfl))) (mvT hZ (hw _ (List.mem_of_getElem? (i := 34) rfl))) (by decide) (backOf (W := 0) (rm9 l Z a0 hw [] p2 p3 p4 (0 : Int32) h0 n0 Z0) hZ (hw _ (List.mem_of_getElem? (i := 34) rfl)) (hw _ (List.mem_of_getElem? (i := 3) rfl)) (by decide) (by decide)) (g := (mkF m 29 #[.val (.ref a1), .val (.int p2), .val (.int p3), .val (.int p4), .val (.ref yy), .val (.int (0 : Int32)), .val (.int (1 : Int32))] [(.int (0 : Int32)), (.int p4), (.int p3), (.int p2)])) rfl (by rw [hml]; rfl) (argsL := [(.int p2), (.int p3), (.int p4), (.int (0 : Int32))]) (rest := []) (lenOf pd_1 rfl) rfl (by show 2 * 0 + _ ≤ _; exact Nat.le_of_eq rfl) (hb hby d5_29) (fun _ _ => ⟨rfl, e0, (by decide : 0 + 0 ≤ _), (by decide : 0 + 0 ≤ _)⟩)
  dsimp only [Pt.U, Pt.locs, Pt.cells, Pt.slots] at X5 l5 y5 z5 st5 hQ5
  replace y5 : k5 = 0 := y5
  replace z5 : n5 = 0 := z5
  subst y5 z5
  obtain ⟨rfl, N5q, e5⟩ := hQ5
  have N5 : Fr n0 L5 := Eq.mpr (congrArg (Fr n0) l5) (Fr.app N0 N5q)
  refine Go.step st5 ?_
  show Go p e below _ (T5.setTop (mkF m 32 _ [(.int (f9 p2 p3 p4 (0 : Int32)))]))
  obtain ⟨v11, hv11⟩ : ∃ z : Int32, z = (if (f9 p2 p3 p4 (0 : Int32)) = (0 : Int32) then (0 : Int32) else (1 : Int32)) := ⟨_, rfl⟩
  obtain ⟨v12, hv12⟩ : ∃ z : Int32, z = (if (f9 p2 p3 p4 (0 : Int32)) = (0 : Int32) then (1 : Int32) else (if (f12 (0 : Int32) (0 : Int32) ll) = (0 : Int32) then (0 : Int32) else (1 : Int32))) := ⟨_, rfl⟩
  have J32 : Go p e below (AtF p l e ({ frames := 3, cells := 0, slots := 0, locals := 44 } : Room) s m #[(.ref a1), (.int p2), (.int p3), (.int p4)] below meth c n0 0 0 h0 (mkF m 61 #[.val (.ref a1), .val (.int p2), .val (.int p3), .val (.int p4), .val (.ref yy), .val (.int v11), .val (.int v12)] [])) (T5.setTop (mkF m 32 #[.val (.ref a1), .val (.int p2), .val (.int p3), .val (.int p4), .val (.ref yy), .val (.int (0 : Int32)), .val (.int (1 : Int32))] [(.int (f9 p2 p3 p4 (0 : Int32)))])) := by
   by_cases hc6 : (f9 p2 p3 p4 (0 : Int32)) = (0 : Int32)
   · refine Go.step (fun t k => XS.ifYes X5.here hx rfl (pc0 := 32) (pc' := 61) rfl (hb hby d5_32) rfl ((if0 _ _).trans (teq hc6).1) (by decide) (by decide) k) ?_
     show Go p e below _ (T5.setTop (mkF m 61 _ []))
     exact Go.here ⟨_, _, by simp only [hv11, hv12, if_pos hc6], X5, N5, e5⟩
   · refine Go.step (fun t k => XS.ifNo X5.here hx rfl (hb hby d5_32) rfl ((if0 _ _).trans (feq hc6).1) k) ?_
     show Go p e below _ (T5.setTop (mkF m 35 _ []))
     refine gJ (q := 37) X5 hx (hb hby d5_35) rfl rfl ?_
     refine Go.step (fun t k => XS.ifNo X5.here hx rfl (hb hby d5_37) rfl ((if0 _ _).trans (feq (by decide : ¬ ((1 : Int32) = (0 : Int32)))).1) k) ?_
     show Go p e below _ (T5.setTop (mkF m 40 _ []))
     refine gB (q := 42) X5 hx (hb hby d5_40) rfl rfl rfl ?_
     refine gJ (q := 44) X5 hx (hb hby d5_42) rfl rfl ?_
     refine gC (q := 45) (v := 0) X5 hx (hb hby d5_44) rfl rfl ?_
     obtain ⟨_, _, ⟨T7, L7, k7, n7⟩, -, X7, ⟨Lc7, hQ7, l7, y7, z7⟩, st7⟩ := Jvm.LawKit.callS X5 hx (y := (⟨"com/example/hertzbid/hertzbid/ConflictPairsNeighboursPinLaw", "at", "([III)Z"⟩ : MethodName)) hown (mvT hZ (hw _ (List.mem_of_getElem? (i := 42) rfl))) (mvT hZ (hw _ (List.mem_of_getElem? (i := 43) rfl))) (mvT hZ (hw _ (List.mem_of_getElem? (i := 3) rfl))) (mvT hZ (hw _ (List.mem_of_getElem? (i := 44) rfl))) (by decide) (backOf (W := 0) (rm12 l Z a0 hw [] yy (0 : Int32) (0 : Int32) ll h0 n0 Z0 (by subst_vars; (repeat' split) <;> decide : ¬ (0 : Int32) < (0 : Int32)) A_yy) hZ (hw _ (List.mem_of_getElem? (i := 44) rfl)) (hw _ (List.mem_of_getElem? (i := 3) rfl)) (by decide) (by decide)) (g := (mkF m 45 #[.val (.ref a1), .val (.int p2), .val (.int p3), .val (.int p4), .val (.ref yy), .val (.int (0 : Int32)), .val (.int (1 : Int32))] [(.int (0 : Int32)), (.int (0 : Int32)), (.ref yy)])) rfl (by rw [hml]; rfl) (argsL := [(.ref yy), (.int (0 : Int32)), (.int (0 : Int32))]) (rest := []) (lenOf pd_3 rfl) rfl (by show 2 * 0 + _ ≤ _; exact Nat.le_of_eq rfl) (hb hby d5_45) (fun _ _ => ⟨rfl, e5, (by decide : 0 + 0 ≤ _), (by decide : 0 + 0 ≤ _)⟩)
     dsimp only [Pt.U, Pt.locs, Pt.cells, Pt.slots] at X7 l7 y7 z7 st7 hQ7
     replace y7 : k7 = 0 := y7
     replace z7 : n7 = 0 := z7
     subst y7 z7
     obtain ⟨rfl, N7q, e7⟩ := hQ7
     have N7 : Fr n0 L7 := Eq.mpr (congrArg (Fr n0) l7) (Fr.app N5 N7q)
     refine Go.step st7 ?_
     show Go p e below _ (T7.setTop (mkF m 48 _ [(.int (f12 (0 : Int32) (0 : Int32) ll))]))
     obtain ⟨v9, hv9⟩ : ∃ z : Int32, z = (if (f12 (0 : Int32) (0 : Int32) ll) = (0 : Int32) then (0 : Int32) else (1 : Int32)) := ⟨_, rfl⟩
     have J48 : Go p e below (AtF p l e ({ frames := 3, cells := 0, slots := 0, locals := 44 } : Room) s m #[(.ref a1), (.int p2), (.int p3), (.int p4)] below meth c n0 0 0 h0 (mkF m 56 #[.val (.ref a1), .val (.int p2), .val (.int p3), .val (.int p4), .val (.ref yy), .val (.int (0 : Int32)), .val (.int (1 : Int32))] [(.int v9)])) (T7.setTop (mkF m 48 #[.val (.ref a1), .val (.int p2), .val (.int p3), .val (.int p4), .val (.ref yy), .val (.int (0 : Int32)), .val (.int (1 : Int32))] [(.int (f12 (0 : Int32) (0 : Int32) ll))])) := by
      by_cases hc8 : (f12 (0 : Int32) (0 : Int32) ll) = (0 : Int32)
      · refine Go.step (fun t k => XS.ifYes X7.here hx rfl (pc0 := 48) (pc' := 55) rfl (hb hby d5_48) rfl ((if0 _ _).trans (teq hc8).1) (by decide) (by decide) k) ?_
        show Go p e below _ (T7.setTop (mkF m 55 _ []))
        refine gC (q := 56) (v := 0) X7 hx (hb hby d5_55) rfl rfl ?_
        show Go p e below _ (T7.setTop (mkF m 56 _ [(.int (0 : Int32))]))
        exact Go.here ⟨_, _, by simp only [hv9, if_pos hc8], X7, N7, e7⟩
      · refine Go.step (fun t k => XS.ifNo X7.here hx rfl (hb hby d5_48) rfl ((if0 _ _).trans (feq hc8).1) k) ?_
        show Go p e below _ (T7.setTop (mkF m 51 _ []))
        refine gC (q := 52) (v := 1) X7 hx (hb hby d5_51) rfl rfl ?_
        refine Go.step (fun t k => XS.goto X7.here hx rfl (pc0 := 52) (pc' := 56) rfl (hb hby d5_52) (by decide) (by decide) k) ?_
        show Go p e below _ (T7.setTop (mkF m 56 _ [(.int (1 : Int32))]))
        exact Go.here ⟨_, _, by simp only [hv9, if_neg hc8], X7, N7, e7⟩
     obtain ⟨_, st10, T10, Lj10, rfl, X10, N10, e10⟩ := J48
     refine Go.trans st10 ?_
     show Go p e below _ (T10.setTop (mkF m 56 _ [(.int v9)]))
     refine Go.step (fun t k => XS.istore X10.here hx rfl (hb hby d5_56) rfl (l' := #[.val (.ref a1), .val (.int p2), .val (.int p3), .val (.int p4), .val (.ref yy), .val (.int (0 : Int32)), .val (.int v9)]) rfl k) ?_
     show Go p e below _ (T10.setTop (mkF m 58 _ []))
     refine Go.step (fun t k => XS.iinc X10.here hx rfl (hb hby d5_58) rfl (l' := #[.val (.ref a1), .val (.int p2), .val (.int p3), .val (.int p4), .val (.ref yy), .val (.int (1 : Int32)), .val (.int v9)]) rfl k) ?_
     show Go p e below _ (T10.setTop (mkF m 61 _ []))
     subst hv9
     exact Go.here ⟨_, _, by simp only [hv11, hv12, if_neg hc6], X10, N10, e10⟩
  obtain ⟨_, st13, T13, Lj13, rfl, X13, N13, e13⟩ := J32
  refine Go.trans st13 ?_
  show Go p e below _ (T13.setTop (mkF m 61 _ []))
  refine gI (q := 62) X13 hx (hb hby d5_61) rfl rfl ?_
  refine gI (q := 63) X13 hx (hb hby d5_62) rfl rfl ?_
  refine gI (q := 64) X13 hx (hb hby d5_63) rfl rfl ?_
  refine gC (q := 65) (v := 1) X13 hx (hb hby d5_64) rfl rfl ?_
  obtain ⟨_, _, ⟨T14, L14, k14, n14⟩, -, X14, ⟨Lc14, hQ14, l14, y14, z14⟩, st14⟩ := Jvm.LawKit.callS X13 hx (y := (⟨"com/example/hertzbid/hertzbid/ConflictPairsNeighboursPinLaw", "adj", "(IIII)Z"⟩ : MethodName)) hown (mvT hZ (hw _ (List.mem_of_getElem? (i := 32) rfl))) (mvT hZ (hw _ (List.mem_of_getElem? (i := 33) rfl))) (mvT hZ (hw _ (List.mem_of_getElem? (i := 3) rfl))) (mvT hZ (hw _ (List.mem_of_getElem? (i := 34) rfl))) (by decide) (backOf (W := 0) (rm9 l Z a0 hw [] p2 p3 p4 (1 : Int32) h0 n0 Z0) hZ (hw _ (List.mem_of_getElem? (i := 34) rfl)) (hw _ (List.mem_of_getElem? (i := 3) rfl)) (by decide) (by decide)) (g := (mkF m 65 #[.val (.ref a1), .val (.int p2), .val (.int p3), .val (.int p4), .val (.ref yy), .val (.int v11), .val (.int v12)] [(.int (1 : Int32)), (.int p4), (.int p3), (.int p2)])) rfl (by rw [hml]; rfl) (argsL := [(.int p2), (.int p3), (.int p4), (.int (1 : Int32))]) (rest := []) (lenOf pd_1 rfl) rfl (by show 2 * 0 + _ ≤ _; exact Nat.le_of_eq rfl) (hb hby d5_65) (fun _ _ => ⟨rfl, e13, (by decide : 0 + 0 ≤ _), (by decide : 0 + 0 ≤ _)⟩)
  dsimp only [Pt.U, Pt.locs, Pt.cells, Pt.slots] at X14 l14 y14 z14 st14 hQ14
  replace y14 : k14 = 0 := y14
  replace z14 : n14 = 0 := z14
  subst y14 z14
  obtain ⟨rfl, N14q, e14⟩ := hQ14
  have N14 : Fr n0 L14 := Eq.mpr (congrArg (Fr n0) l14) (Fr.app N13 N14q)
  refine Go.step st14 ?_
  show Go p e below _ (T14.setTop (mkF m 68 _ [(.int (f9 p2 p3 p4 (1 : Int32)))]))
  obtain ⟨v21, hv21⟩ : ∃ z : Int32, z = (if (f9 p2 p3 p4 (1 : Int32)) = (0 : Int32) then v11 else (v11 + (1 : Int32))) := ⟨_, rfl⟩
  obtain ⟨v22, hv22⟩ : ∃ z : Int32, z = (if (f9 p2 p3 p4 (1 : Int32)) = (0 : Int32) then v12 else (if v12 = (0 : Int32) then (0 : Int32) else (if (f12 v11 (1 : Int32) ll) = (0 : Int32) then (0 : Int32) else (1 : Int32)))) := ⟨_, rfl⟩
  have J68 : Go p e below (AtF p l e ({ frames := 3, cells := 0, slots := 0, locals := 44 } : Room) s m #[(.ref a1), (.int p2), (.int p3), (.int p4)] below meth c n0 0 0 h0 (mkF m 97 #[.val (.ref a1), .val (.int p2), .val (.int p3), .val (.int p4), .val (.ref yy), .val (.int v21), .val (.int v22)] [])) (T14.setTop (mkF m 68 #[.val (.ref a1), .val (.int p2), .val (.int p3), .val (.int p4), .val (.ref yy), .val (.int v11), .val (.int v12)] [(.int (f9 p2 p3 p4 (1 : Int32)))])) := by
   by_cases hc15 : (f9 p2 p3 p4 (1 : Int32)) = (0 : Int32)
   · refine Go.step (fun t k => XS.ifYes X14.here hx rfl (pc0 := 68) (pc' := 97) rfl (hb hby d5_68) rfl ((if0 _ _).trans (teq hc15).1) (by decide) (by decide) k) ?_
     show Go p e below _ (T14.setTop (mkF m 97 _ []))
     exact Go.here ⟨_, _, by simp only [hv21, hv22, if_pos hc15], X14, N14, e14⟩
   · refine Go.step (fun t k => XS.ifNo X14.here hx rfl (hb hby d5_68) rfl ((if0 _ _).trans (feq hc15).1) k) ?_
     show Go p e below _ (T14.setTop (mkF m 71 _ []))
     refine gJ (q := 73) X14 hx (hb hby d5_71) rfl rfl ?_
     obtain ⟨v19, hv19⟩ : ∃ z : Int32, z = (if v12 = (0 : Int32) then (0 : Int32) else (if (f12 v11 (1 : Int32) ll) = (0 : Int32) then (0 : Int32) else (1 : Int32))) := ⟨_, rfl⟩
     have J73 : Go p e below (AtF p l e ({ frames := 3, cells := 0, slots := 0, locals := 44 } : Room) s m #[(.ref a1), (.int p2), (.int p3), (.int p4)] below meth c n0 0 0 h0 (mkF m 92 #[.val (.ref a1), .val (.int p2), .val (.int p3), .val (.int p4), .val (.ref yy), .val (.int v11), .val (.int v12)] [(.int v19)])) (T14.setTop (mkF m 73 #[.val (.ref a1), .val (.int p2), .val (.int p3), .val (.int p4), .val (.ref yy), .val (.int v11), .val (.int v12)] [(.int v12)])) := by
      by_cases hc16 : v12 = (0 : Int32)
      · refine Go.step (fun t k => XS.ifYes X14.here hx rfl (pc0 := 73) (pc' := 91) rfl (hb hby d5_73) rfl ((if0 _ _).trans (teq hc16).1) (by decide) (by decide) k) ?_
        show Go p e below _ (T14.setTop (mkF m 91 _ []))
        refine gC (q := 92) (v := 0) X14 hx (hb hby d5_91) rfl rfl ?_
        show Go p e below _ (T14.setTop (mkF m 92 _ [(.int (0 : Int32))]))
        exact Go.here ⟨_, _, by simp only [hv19, if_pos hc16], X14, N14, e14⟩
      · refine Go.step (fun t k => XS.ifNo X14.here hx rfl (hb hby d5_73) rfl ((if0 _ _).trans (feq hc16).1) k) ?_
        show Go p e below _ (T14.setTop (mkF m 76 _ []))
        refine gB (q := 78) X14 hx (hb hby d5_76) rfl rfl rfl ?_
        refine gJ (q := 80) X14 hx (hb hby d5_78) rfl rfl ?_
        refine gC (q := 81) (v := 1) X14 hx (hb hby d5_80) rfl rfl ?_
        obtain ⟨_, _, ⟨T17, L17, k17, n17⟩, -, X17, ⟨Lc17, hQ17, l17, y17, z17⟩, st17⟩ := Jvm.LawKit.callS X14 hx (y := (⟨"com/example/hertzbid/hertzbid/ConflictPairsNeighboursPinLaw", "at", "([III)Z"⟩ : MethodName)) hown (mvT hZ (hw _ (List.mem_of_getElem? (i := 42) rfl))) (mvT hZ (hw _ (List.mem_of_getElem? (i := 43) rfl))) (mvT hZ (hw _ (List.mem_of_getElem? (i := 3) rfl))) (mvT hZ (hw _ (List.mem_of_getElem? (i := 44) rfl))) (by decide) (backOf (W := 0) (rm12 l Z a0 hw [] yy v11 (1 : Int32) ll h0 n0 Z0 (by subst_vars; (repeat' split) <;> decide : ¬ v11 < (0 : Int32)) A_yy) hZ (hw _ (List.mem_of_getElem? (i := 44) rfl)) (hw _ (List.mem_of_getElem? (i := 3) rfl)) (by decide) (by decide)) (g := (mkF m 81 #[.val (.ref a1), .val (.int p2), .val (.int p3), .val (.int p4), .val (.ref yy), .val (.int v11), .val (.int v12)] [(.int (1 : Int32)), (.int v11), (.ref yy)])) rfl (by rw [hml]; rfl) (argsL := [(.ref yy), (.int v11), (.int (1 : Int32))]) (rest := []) (lenOf pd_3 rfl) rfl (by show 2 * 0 + _ ≤ _; exact Nat.le_of_eq rfl) (hb hby d5_81) (fun _ _ => ⟨rfl, e14, (by decide : 0 + 0 ≤ _), (by decide : 0 + 0 ≤ _)⟩)
        dsimp only [Pt.U, Pt.locs, Pt.cells, Pt.slots] at X17 l17 y17 z17 st17 hQ17
        replace y17 : k17 = 0 := y17
        replace z17 : n17 = 0 := z17
        subst y17 z17
        obtain ⟨rfl, N17q, e17⟩ := hQ17
        have N17 : Fr n0 L17 := Eq.mpr (congrArg (Fr n0) l17) (Fr.app N14 N17q)
        refine Go.step st17 ?_
        show Go p e below _ (T17.setTop (mkF m 84 _ [(.int (f12 v11 (1 : Int32) ll))]))
        by_cases hc18 : (f12 v11 (1 : Int32) ll) = (0 : Int32)
        · refine Go.step (fun t k => XS.ifYes X17.here hx rfl (pc0 := 84) (pc' := 91) rfl (hb hby d5_84) rfl ((if0 _ _).trans (teq hc18).1) (by decide) (by decide) k) ?_
          show Go p e below _ (T17.setTop (mkF m 91 _ []))
          refine gC (q := 92) (v := 0) X17 hx (hb hby d5_91) rfl rfl ?_
          show Go p e below _ (T17.setTop (mkF m 92 _ [(.int (0 : Int32))]))
          exact Go.here ⟨_, _, by simp only [hv19, if_neg hc16, if_pos hc18], X17, N17, e17⟩
        · refine Go.step (fun t k => XS.ifNo X17.here hx rfl (hb hby d5_84) rfl ((if0 _ _).trans (feq hc18).1) k) ?_
          show Go p e below _ (T17.setTop (mkF m 87 _ []))
          refine gC (q := 88) (v := 1) X17 hx (hb hby d5_87) rfl rfl ?_
          refine Go.step (fun t k => XS.goto X17.here hx rfl (pc0 := 88) (pc' := 92) rfl (hb hby d5_88) (by decide) (by decide) k) ?_
          show Go p e below _ (T17.setTop (mkF m 92 _ [(.int (1 : Int32))]))
          exact Go.here ⟨_, _, by simp only [hv19, if_neg hc16, if_neg hc18], X17, N17, e17⟩
     obtain ⟨_, st20, T20, Lj20, rfl, X20, N20, e20⟩ := J73
     refine Go.trans st20 ?_
     show Go p e below _ (T20.setTop (mkF m 92 _ [(.int v19)]))
     refine Go.step (fun t k => XS.istore X20.here hx rfl (hb hby d5_92) rfl (l' := #[.val (.ref a1), .val (.int p2), .val (.int p3), .val (.int p4), .val (.ref yy), .val (.int v11), .val (.int v19)]) rfl k) ?_
     show Go p e below _ (T20.setTop (mkF m 94 _ []))
     refine Go.step (fun t k => XS.iinc X20.here hx rfl (hb hby d5_94) rfl (l' := #[.val (.ref a1), .val (.int p2), .val (.int p3), .val (.int p4), .val (.ref yy), .val (.int (v11 + (1 : Int32))), .val (.int v19)]) rfl k) ?_
     show Go p e below _ (T20.setTop (mkF m 97 _ []))
     subst hv19
     exact Go.here ⟨_, _, by simp only [hv21, hv22, if_neg hc15], X20, N20, e20⟩
  obtain ⟨_, st23, T23, Lj23, rfl, X23, N23, e23⟩ := J68
  refine Go.trans st23 ?_
  show Go p e below _ (T23.setTop (mkF m 97 _ []))
  refine gI (q := 98) X23 hx (hb hby d5_97) rfl rfl ?_
  refine gI (q := 99) X23 hx (hb hby d5_98) rfl rfl ?_
  refine gI (q := 100) X23 hx (hb hby d5_99) rfl rfl ?_
  refine gC (q := 101) (v := 2) X23 hx (hb hby d5_100) rfl rfl ?_
  obtain ⟨_, _, ⟨T24, L24, k24, n24⟩, -, X24, ⟨Lc24, hQ24, l24, y24, z24⟩, st24⟩ := Jvm.LawKit.callS X23 hx (y := (⟨"com/example/hertzbid/hertzbid/ConflictPairsNeighboursPinLaw", "adj", "(IIII)Z"⟩ : MethodName)) hown (mvT hZ (hw _ (List.mem_of_getElem? (i := 32) rfl))) (mvT hZ (hw _ (List.mem_of_getElem? (i := 33) rfl))) (mvT hZ (hw _ (List.mem_of_getElem? (i := 3) rfl))) (mvT hZ (hw _ (List.mem_of_getElem? (i := 34) rfl))) (by decide) (backOf (W := 0) (rm9 l Z a0 hw [] p2 p3 p4 (2 : Int32) h0 n0 Z0) hZ (hw _ (List.mem_of_getElem? (i := 34) rfl)) (hw _ (List.mem_of_getElem? (i := 3) rfl)) (by decide) (by decide)) (g := (mkF m 101 #[.val (.ref a1), .val (.int p2), .val (.int p3), .val (.int p4), .val (.ref yy), .val (.int v21), .val (.int v22)] [(.int (2 : Int32)), (.int p4), (.int p3), (.int p2)])) rfl (by rw [hml]; rfl) (argsL := [(.int p2), (.int p3), (.int p4), (.int (2 : Int32))]) (rest := []) (lenOf pd_1 rfl) rfl (by show 2 * 0 + _ ≤ _; exact Nat.le_of_eq rfl) (hb hby d5_101) (fun _ _ => ⟨rfl, e23, (by decide : 0 + 0 ≤ _), (by decide : 0 + 0 ≤ _)⟩)
  dsimp only [Pt.U, Pt.locs, Pt.cells, Pt.slots] at X24 l24 y24 z24 st24 hQ24
  replace y24 : k24 = 0 := y24
  replace z24 : n24 = 0 := z24
  subst y24 z24
  obtain ⟨rfl, N24q, e24⟩ := hQ24
  have N24 : Fr n0 L24 := Eq.mpr (congrArg (Fr n0) l24) (Fr.app N23 N24q)
  refine Go.step st24 ?_
  show Go p e below _ (T24.setTop (mkF m 104 _ [(.int (f9 p2 p3 p4 (2 : Int32)))]))
  obtain ⟨v31, hv31⟩ : ∃ z : Int32, z = (if (f9 p2 p3 p4 (2 : Int32)) = (0 : Int32) then v21 else (v21 + (1 : Int32))) := ⟨_, rfl⟩
  obtain ⟨v32, hv32⟩ : ∃ z : Int32, z = (if (f9 p2 p3 p4 (2 : Int32)) = (0 : Int32) then v22 else (if v22 = (0 : Int32) then (0 : Int32) else (if (f12 v21 (2 : Int32) ll) = (0 : Int32) then (0 : Int32) else (1 : Int32)))) := ⟨_, rfl⟩
  have J104 : Go p e below (AtF p l e ({ frames := 3, cells := 0, slots := 0, locals := 44 } : Room) s m #[(.ref a1), (.int p2), (.int p3), (.int p4)] below meth c n0 0 0 h0 (mkF m 133 #[.val (.ref a1), .val (.int p2), .val (.int p3), .val (.int p4), .val (.ref yy), .val (.int v31), .val (.int v32)] [])) (T24.setTop (mkF m 104 #[.val (.ref a1), .val (.int p2), .val (.int p3), .val (.int p4), .val (.ref yy), .val (.int v21), .val (.int v22)] [(.int (f9 p2 p3 p4 (2 : Int32)))])) := by
   by_cases hc25 : (f9 p2 p3 p4 (2 : Int32)) = (0 : Int32)
   · refine Go.step (fun t k => XS.ifYes X24.here hx rfl (pc0 := 104) (pc' := 133) rfl (hb hby d5_104) rfl ((if0 _ _).trans (teq hc25).1) (by decide) (by decide) k) ?_
     show Go p e below _ (T24.setTop (mkF m 133 _ []))
     exact Go.here ⟨_, _, by simp only [hv31, hv32, if_pos hc25], X24, N24, e24⟩
   · refine Go.step (fun t k => XS.ifNo X24.here hx rfl (hb hby d5_104) rfl ((if0 _ _).trans (feq hc25).1) k) ?_
     show Go p e below _ (T24.setTop (mkF m 107 _ []))
     refine gJ (q := 109) X24 hx (hb hby d5_107) rfl rfl ?_
     obtain ⟨v29, hv29⟩ : ∃ z : Int32, z = (if v22 = (0 : Int32) then (0 : Int32) else (if (f12 v21 (2 : Int32) ll) = (0 : Int32) then (0 : Int32) else (1 : Int32))) := ⟨_, rfl⟩
     have J109 : Go p e below (AtF p l e ({ frames := 3, cells := 0, slots := 0, locals := 44 } : Room) s m #[(.ref a1), (.int p2), (.int p3), (.int p4)] below meth c n0 0 0 h0 (mkF m 128 #[.val (.ref a1), .val (.int p2), .val (.int p3), .val (.int p4), .val (.ref yy), .val (.int v21), .val (.int v22)] [(.int v29)])) (T24.setTop (mkF m 109 #[.val (.ref a1), .val (.int p2), .val (.int p3), .val (.int p4), .val (.ref yy), .val (.int v21), .val (.int v22)] [(.int v22)])) := by
      by_cases hc26 : v22 = (0 : Int32)
      · refine Go.step (fun t k => XS.ifYes X24.here hx rfl (pc0 := 109) (pc' := 127) rfl (hb hby d5_109) rfl ((if0 _ _).trans (teq hc26).1) (by decide) (by decide) k) ?_
        show Go p e below _ (T24.setTop (mkF m 127 _ []))
        refine gC (q := 128) (v := 0) X24 hx (hb hby d5_127) rfl rfl ?_
        show Go p e below _ (T24.setTop (mkF m 128 _ [(.int (0 : Int32))]))
        exact Go.here ⟨_, _, by simp only [hv29, if_pos hc26], X24, N24, e24⟩
      · refine Go.step (fun t k => XS.ifNo X24.here hx rfl (hb hby d5_109) rfl ((if0 _ _).trans (feq hc26).1) k) ?_
        show Go p e below _ (T24.setTop (mkF m 112 _ []))
        refine gB (q := 114) X24 hx (hb hby d5_112) rfl rfl rfl ?_
        refine gJ (q := 116) X24 hx (hb hby d5_114) rfl rfl ?_
        refine gC (q := 117) (v := 2) X24 hx (hb hby d5_116) rfl rfl ?_
        obtain ⟨_, _, ⟨T27, L27, k27, n27⟩, -, X27, ⟨Lc27, hQ27, l27, y27, z27⟩, st27⟩ := Jvm.LawKit.callS X24 hx (y := (⟨"com/example/hertzbid/hertzbid/ConflictPairsNeighboursPinLaw", "at", "([III)Z"⟩ : MethodName)) hown (mvT hZ (hw _ (List.mem_of_getElem? (i := 42) rfl))) (mvT hZ (hw _ (List.mem_of_getElem? (i := 43) rfl))) (mvT hZ (hw _ (List.mem_of_getElem? (i := 3) rfl))) (mvT hZ (hw _ (List.mem_of_getElem? (i := 44) rfl))) (by decide) (backOf (W := 0) (rm12 l Z a0 hw [] yy v21 (2 : Int32) ll h0 n0 Z0 (by subst_vars; (repeat' split) <;> decide : ¬ v21 < (0 : Int32)) A_yy) hZ (hw _ (List.mem_of_getElem? (i := 44) rfl)) (hw _ (List.mem_of_getElem? (i := 3) rfl)) (by decide) (by decide)) (g := (mkF m 117 #[.val (.ref a1), .val (.int p2), .val (.int p3), .val (.int p4), .val (.ref yy), .val (.int v21), .val (.int v22)] [(.int (2 : Int32)), (.int v21), (.ref yy)])) rfl (by rw [hml]; rfl) (argsL := [(.ref yy), (.int v21), (.int (2 : Int32))]) (rest := []) (lenOf pd_3 rfl) rfl (by show 2 * 0 + _ ≤ _; exact Nat.le_of_eq rfl) (hb hby d5_117) (fun _ _ => ⟨rfl, e24, (by decide : 0 + 0 ≤ _), (by decide : 0 + 0 ≤ _)⟩)
        dsimp only [Pt.U, Pt.locs, Pt.cells, Pt.slots] at X27 l27 y27 z27 st27 hQ27
        replace y27 : k27 = 0 := y27
        replace z27 : n27 = 0 := z27
        subst y27 z27
        obtain ⟨rfl, N27q, e27⟩ := hQ27
        have N27 : Fr n0 L27 := Eq.mpr (congrArg (Fr n0) l27) (Fr.app N24 N27q)
        refine Go.step st27 ?_
        show Go p e below _ (T27.setTop (mkF m 120 _ [(.int (f12 v21 (2 : Int32) ll))]))
        by_cases hc28 : (f12 v21 (2 : Int32) ll) = (0 : Int32)
        · refine Go.step (fun t k => XS.ifYes X27.here hx rfl (pc0 := 120) (pc' := 127) rfl (hb hby d5_120) rfl ((if0 _ _).trans (teq hc28).1) (by decide) (by decide) k) ?_
          show Go p e below _ (T27.setTop (mkF m 127 _ []))
          refine gC (q := 128) (v := 0) X27 hx (hb hby d5_127) rfl rfl ?_
          show Go p e below _ (T27.setTop (mkF m 128 _ [(.int (0 : Int32))]))
          exact Go.here ⟨_, _, by simp only [hv29, if_neg hc26, if_pos hc28], X27, N27, e27⟩
        · refine Go.step (fun t k => XS.ifNo X27.here hx rfl (hb hby d5_120) rfl ((if0 _ _).trans (feq hc28).1) k) ?_
          show Go p e below _ (T27.setTop (mkF m 123 _ []))
          refine gC (q := 124) (v := 1) X27 hx (hb hby d5_123) rfl rfl ?_
          refine Go.step (fun t k => XS.goto X27.here hx rfl (pc0 := 124) (pc' := 128) rfl (hb hby d5_124) (by decide) (by decide) k) ?_
          show Go p e below _ (T27.setTop (mkF m 128 _ [(.int (1 : Int32))]))
          exact Go.here ⟨_, _, by simp only [hv29, if_neg hc26, if_neg hc28], X27, N27, e27⟩
     obtain ⟨_, st30, T30, Lj30, rfl, X30, N30, e30⟩ := J109
     refine Go.trans st30 ?_
     show Go p e below _ (T30.setTop (mkF m 128 _ [(.int v29)]))
     refine Go.step (fun t k => XS.istore X30.here hx rfl (hb hby d5_128) rfl (l' := #[.val (.ref a1), .val (.int p2), .val (.int p3), .val (.int p4), .val (.ref yy), .val (.int v21), .val (.int v29)]) rfl k) ?_
     show Go p e below _ (T30.setTop (mkF m 130 _ []))
     refine Go.step (fun t k => XS.iinc X30.here hx rfl (hb hby d5_130) rfl (l' := #[.val (.ref a1), .val (.int p2), .val (.int p3), .val (.int p4), .val (.ref yy), .val (.int (v21 + (1 : Int32))), .val (.int v29)]) rfl k) ?_
     show Go p e below _ (T30.setTop (mkF m 133 _ []))
     subst hv29
     exact Go.here ⟨_, _, by simp only [hv31, hv32, if_neg hc25], X30, N30, e30⟩
  obtain ⟨_, st33, T33, Lj33, rfl, X33, N33, e33⟩ := J104
  refine Go.trans st33 ?_
  show Go p e below _ (T33.setTop (mkF m 133 _ []))
  refine gI (q := 134) X33 hx (hb hby d5_133) rfl rfl ?_
  refine gI (q := 135) X33 hx (hb hby d5_134) rfl rfl ?_
  refine gI (q := 136) X33 hx (hb hby d5_135) rfl rfl ?_
  refine gC (q := 137) (v := 3) X33 hx (hb hby d5_136) rfl rfl ?_
  obtain ⟨_, _, ⟨T34, L34, k34, n34⟩, -, X34, ⟨Lc34, hQ34, l34, y34, z34⟩, st34⟩ := Jvm.LawKit.callS X33 hx (y := (⟨"com/example/hertzbid/hertzbid/ConflictPairsNeighboursPinLaw", "adj", "(IIII)Z"⟩ : MethodName)) hown (mvT hZ (hw _ (List.mem_of_getElem? (i := 32) rfl))) (mvT hZ (hw _ (List.mem_of_getElem? (i := 33) rfl))) (mvT hZ (hw _ (List.mem_of_getElem? (i := 3) rfl))) (mvT hZ (hw _ (List.mem_of_getElem? (i := 34) rfl))) (by decide) (backOf (W := 0) (rm9 l Z a0 hw [] p2 p3 p4 (3 : Int32) h0 n0 Z0) hZ (hw _ (List.mem_of_getElem? (i := 34) rfl)) (hw _ (List.mem_of_getElem? (i := 3) rfl)) (by decide) (by decide)) (g := (mkF m 137 #[.val (.ref a1), .val (.int p2), .val (.int p3), .val (.int p4), .val (.ref yy), .val (.int v31), .val (.int v32)] [(.int (3 : Int32)), (.int p4), (.int p3), (.int p2)])) rfl (by rw [hml]; rfl) (argsL := [(.int p2), (.int p3), (.int p4), (.int (3 : Int32))]) (rest := []) (lenOf pd_1 rfl) rfl (by show 2 * 0 + _ ≤ _; exact Nat.le_of_eq rfl) (hb hby d5_137) (fun _ _ => ⟨rfl, e33, (by decide : 0 + 0 ≤ _), (by decide : 0 + 0 ≤ _)⟩)
  dsimp only [Pt.U, Pt.locs, Pt.cells, Pt.slots] at X34 l34 y34 z34 st34 hQ34
  replace y34 : k34 = 0 := y34
  replace z34 : n34 = 0 := z34
  subst y34 z34
  obtain ⟨rfl, N34q, e34⟩ := hQ34
  have N34 : Fr n0 L34 := Eq.mpr (congrArg (Fr n0) l34) (Fr.app N33 N34q)
  refine Go.step st34 ?_
  show Go p e below _ (T34.setTop (mkF m 140 _ [(.int (f9 p2 p3 p4 (3 : Int32)))]))
  obtain ⟨v41, hv41⟩ : ∃ z : Int32, z = (if (f9 p2 p3 p4 (3 : Int32)) = (0 : Int32) then v31 else (v31 + (1 : Int32))) := ⟨_, rfl⟩
  obtain ⟨v42, hv42⟩ : ∃ z : Int32, z = (if (f9 p2 p3 p4 (3 : Int32)) = (0 : Int32) then v32 else (if v32 = (0 : Int32) then (0 : Int32) else (if (f12 v31 (3 : Int32) ll) = (0 : Int32) then (0 : Int32) else (1 : Int32)))) := ⟨_, rfl⟩
  have J140 : Go p e below (AtF p l e ({ frames := 3, cells := 0, slots := 0, locals := 44 } : Room) s m #[(.ref a1), (.int p2), (.int p3), (.int p4)] below meth c n0 0 0 h0 (mkF m 169 #[.val (.ref a1), .val (.int p2), .val (.int p3), .val (.int p4), .val (.ref yy), .val (.int v41), .val (.int v42)] [])) (T34.setTop (mkF m 140 #[.val (.ref a1), .val (.int p2), .val (.int p3), .val (.int p4), .val (.ref yy), .val (.int v31), .val (.int v32)] [(.int (f9 p2 p3 p4 (3 : Int32)))])) := by
   by_cases hc35 : (f9 p2 p3 p4 (3 : Int32)) = (0 : Int32)
   · refine Go.step (fun t k => XS.ifYes X34.here hx rfl (pc0 := 140) (pc' := 169) rfl (hb hby d5_140) rfl ((if0 _ _).trans (teq hc35).1) (by decide) (by decide) k) ?_
     show Go p e below _ (T34.setTop (mkF m 169 _ []))
     exact Go.here ⟨_, _, by simp only [hv41, hv42, if_pos hc35], X34, N34, e34⟩
   · refine Go.step (fun t k => XS.ifNo X34.here hx rfl (hb hby d5_140) rfl ((if0 _ _).trans (feq hc35).1) k) ?_
     show Go p e below _ (T34.setTop (mkF m 143 _ []))
     refine gJ (q := 145) X34 hx (hb hby d5_143) rfl rfl ?_
     obtain ⟨v39, hv39⟩ : ∃ z : Int32, z = (if v32 = (0 : Int32) then (0 : Int32) else (if (f12 v31 (3 : Int32) ll) = (0 : Int32) then (0 : Int32) else (1 : Int32))) := ⟨_, rfl⟩
     have J145 : Go p e below (AtF p l e ({ frames := 3, cells := 0, slots := 0, locals := 44 } : Room) s m #[(.ref a1), (.int p2), (.int p3), (.int p4)] below meth c n0 0 0 h0 (mkF m 164 #[.val (.ref a1), .val (.int p2), .val (.int p3), .val (.int p4), .val (.ref yy), .val (.int v31), .val (.int v32)] [(.int v39)])) (T34.setTop (mkF m 145 #[.val (.ref a1), .val (.int p2), .val (.int p3), .val (.int p4), .val (.ref yy), .val (.int v31), .val (.int v32)] [(.int v32)])) := by
      by_cases hc36 : v32 = (0 : Int32)
      · refine Go.step (fun t k => XS.ifYes X34.here hx rfl (pc0 := 145) (pc' := 163) rfl (hb hby d5_145) rfl ((if0 _ _).trans (teq hc36).1) (by decide) (by decide) k) ?_
        show Go p e below _ (T34.setTop (mkF m 163 _ []))
        refine gC (q := 164) (v := 0) X34 hx (hb hby d5_163) rfl rfl ?_
        show Go p e below _ (T34.setTop (mkF m 164 _ [(.int (0 : Int32))]))
        exact Go.here ⟨_, _, by simp only [hv39, if_pos hc36], X34, N34, e34⟩
      · refine Go.step (fun t k => XS.ifNo X34.here hx rfl (hb hby d5_145) rfl ((if0 _ _).trans (feq hc36).1) k) ?_
        show Go p e below _ (T34.setTop (mkF m 148 _ []))
        refine gB (q := 150) X34 hx (hb hby d5_148) rfl rfl rfl ?_
        refine gJ (q := 152) X34 hx (hb hby d5_150) rfl rfl ?_
        refine gC (q := 153) (v := 3) X34 hx (hb hby d5_152) rfl rfl ?_
        obtain ⟨_, _, ⟨T37, L37, k37, n37⟩, -, X37, ⟨Lc37, hQ37, l37, y37, z37⟩, st37⟩ := Jvm.LawKit.callS X34 hx (y := (⟨"com/example/hertzbid/hertzbid/ConflictPairsNeighboursPinLaw", "at", "([III)Z"⟩ : MethodName)) hown (mvT hZ (hw _ (List.mem_of_getElem? (i := 42) rfl))) (mvT hZ (hw _ (List.mem_of_getElem? (i := 43) rfl))) (mvT hZ (hw _ (List.mem_of_getElem? (i := 3) rfl))) (mvT hZ (hw _ (List.mem_of_getElem? (i := 44) rfl))) (by decide) (backOf (W := 0) (rm12 l Z a0 hw [] yy v31 (3 : Int32) ll h0 n0 Z0 (by subst_vars; (repeat' split) <;> decide : ¬ v31 < (0 : Int32)) A_yy) hZ (hw _ (List.mem_of_getElem? (i := 44) rfl)) (hw _ (List.mem_of_getElem? (i := 3) rfl)) (by decide) (by decide)) (g := (mkF m 153 #[.val (.ref a1), .val (.int p2), .val (.int p3), .val (.int p4), .val (.ref yy), .val (.int v31), .val (.int v32)] [(.int (3 : Int32)), (.int v31), (.ref yy)])) rfl (by rw [hml]; rfl) (argsL := [(.ref yy), (.int v31), (.int (3 : Int32))]) (rest := []) (lenOf pd_3 rfl) rfl (by show 2 * 0 + _ ≤ _; exact Nat.le_of_eq rfl) (hb hby d5_153) (fun _ _ => ⟨rfl, e34, (by decide : 0 + 0 ≤ _), (by decide : 0 + 0 ≤ _)⟩)
        dsimp only [Pt.U, Pt.locs, Pt.cells, Pt.slots] at X37 l37 y37 z37 st37 hQ37
        replace y37 : k37 = 0 := y37
        replace z37 : n37 = 0 := z37
        subst y37 z37
        obtain ⟨rfl, N37q, e37⟩ := hQ37
        have N37 : Fr n0 L37 := Eq.mpr (congrArg (Fr n0) l37) (Fr.app N34 N37q)
        refine Go.step st37 ?_
        show Go p e below _ (T37.setTop (mkF m 156 _ [(.int (f12 v31 (3 : Int32) ll))]))
        by_cases hc38 : (f12 v31 (3 : Int32) ll) = (0 : Int32)
        · refine Go.step (fun t k => XS.ifYes X37.here hx rfl (pc0 := 156) (pc' := 163) rfl (hb hby d5_156) rfl ((if0 _ _).trans (teq hc38).1) (by decide) (by decide) k) ?_
          show Go p e below _ (T37.setTop (mkF m 163 _ []))
          refine gC (q := 164) (v := 0) X37 hx (hb hby d5_163) rfl rfl ?_
          show Go p e below _ (T37.setTop (mkF m 164 _ [(.int (0 : Int32))]))
          exact Go.here ⟨_, _, by simp only [hv39, if_neg hc36, if_pos hc38], X37, N37, e37⟩
        · refine Go.step (fun t k => XS.ifNo X37.here hx rfl (hb hby d5_156) rfl ((if0 _ _).trans (feq hc38).1) k) ?_
          show Go p e below _ (T37.setTop (mkF m 159 _ []))
          refine gC (q := 160) (v := 1) X37 hx (hb hby d5_159) rfl rfl ?_
          refine Go.step (fun t k => XS.goto X37.here hx rfl (pc0 := 160) (pc' := 164) rfl (hb hby d5_160) (by decide) (by decide) k) ?_
          show Go p e below _ (T37.setTop (mkF m 164 _ [(.int (1 : Int32))]))
          exact Go.here ⟨_, _, by simp only [hv39, if_neg hc36, if_neg hc38], X37, N37, e37⟩
     obtain ⟨_, st40, T40, Lj40, rfl, X40, N40, e40⟩ := J145
     refine Go.trans st40 ?_
     show Go p e below _ (T40.setTop (mkF m 164 _ [(.int v39)]))
     refine Go.step (fun t k => XS.istore X40.here hx rfl (hb hby d5_164) rfl (l' := #[.val (.ref a1), .val (.int p2), .val (.int p3), .val (.int p4), .val (.ref yy), .val (.int v31), .val (.int v39)]) rfl k) ?_
     show Go p e below _ (T40.setTop (mkF m 166 _ []))
     refine Go.step (fun t k => XS.iinc X40.here hx rfl (hb hby d5_166) rfl (l' := #[.val (.ref a1), .val (.int p2), .val (.int p3), .val (.int p4), .val (.ref yy), .val (.int (v31 + (1 : Int32))), .val (.int v39)]) rfl k) ?_
     show Go p e below _ (T40.setTop (mkF m 169 _ []))
     subst hv39
     exact Go.here ⟨_, _, by simp only [hv41, hv42, if_neg hc35], X40, N40, e40⟩
  obtain ⟨_, st43, T43, Lj43, rfl, X43, N43, e43⟩ := J140
  refine Go.trans st43 ?_
  show Go p e below _ (T43.setTop (mkF m 169 _ []))
  refine gI (q := 170) X43 hx (hb hby d5_169) rfl rfl ?_
  refine gI (q := 171) X43 hx (hb hby d5_170) rfl rfl ?_
  refine gI (q := 172) X43 hx (hb hby d5_171) rfl rfl ?_
  refine gC (q := 173) (v := 4) X43 hx (hb hby d5_172) rfl rfl ?_
  obtain ⟨_, _, ⟨T44, L44, k44, n44⟩, -, X44, ⟨Lc44, hQ44, l44, y44, z44⟩, st44⟩ := Jvm.LawKit.callS X43 hx (y := (⟨"com/example/hertzbid/hertzbid/ConflictPairsNeighboursPinLaw", "adj", "(IIII)Z"⟩ : MethodName)) hown (mvT hZ (hw _ (List.mem_of_getElem? (i := 32) rfl))) (mvT hZ (hw _ (List.mem_of_getElem? (i := 33) rfl))) (mvT hZ (hw _ (List.mem_of_getElem? (i := 3) rfl))) (mvT hZ (hw _ (List.mem_of_getElem? (i := 34) rfl))) (by decide) (backOf (W := 0) (rm9 l Z a0 hw [] p2 p3 p4 (4 : Int32) h0 n0 Z0) hZ (hw _ (List.mem_of_getElem? (i := 34) rfl)) (hw _ (List.mem_of_getElem? (i := 3) rfl)) (by decide) (by decide)) (g := (mkF m 173 #[.val (.ref a1), .val (.int p2), .val (.int p3), .val (.int p4), .val (.ref yy), .val (.int v41), .val (.int v42)] [(.int (4 : Int32)), (.int p4), (.int p3), (.int p2)])) rfl (by rw [hml]; rfl) (argsL := [(.int p2), (.int p3), (.int p4), (.int (4 : Int32))]) (rest := []) (lenOf pd_1 rfl) rfl (by show 2 * 0 + _ ≤ _; exact Nat.le_of_eq rfl) (hb hby d5_173) (fun _ _ => ⟨rfl, e43, (by decide : 0 + 0 ≤ _), (by decide : 0 + 0 ≤ _)⟩)
  dsimp only [Pt.U, Pt.locs, Pt.cells, Pt.slots] at X44 l44 y44 z44 st44 hQ44
  replace y44 : k44 = 0 := y44
  replace z44 : n44 = 0 := z44
  subst y44 z44
  obtain ⟨rfl, N44q, e44⟩ := hQ44
  have N44 : Fr n0 L44 := Eq.mpr (congrArg (Fr n0) l44) (Fr.app N43 N44q)
  refine Go.step st44 ?_
  show Go p e below _ (T44.setTop (mkF m 176 _ [(.int (f9 p2 p3 p4 (4 : Int32)))]))
  obtain ⟨v51, hv51⟩ : ∃ z : Int32, z = (if (f9 p2 p3 p4 (4 : Int32)) = (0 : Int32) then v41 else (v41 + (1 : Int32))) := ⟨_, rfl⟩
  obtain ⟨v52, hv52⟩ : ∃ z : Int32, z = (if (f9 p2 p3 p4 (4 : Int32)) = (0 : Int32) then v42 else (if v42 = (0 : Int32) then (0 : Int32) else (if (f12 v41 (4 : Int32) ll) = (0 : Int32) then (0 : Int32) else (1 : Int32)))) := ⟨_, rfl⟩
  have J176 : Go p e below (AtF p l e ({ frames := 3, cells := 0, slots := 0, locals := 44 } : Room) s m #[(.ref a1), (.int p2), (.int p3), (.int p4)] below meth c n0 0 0 h0 (mkF m 205 #[.val (.ref a1), .val (.int p2), .val (.int p3), .val (.int p4), .val (.ref yy), .val (.int v51), .val (.int v52)] [])) (T44.setTop (mkF m 176 #[.val (.ref a1), .val (.int p2), .val (.int p3), .val (.int p4), .val (.ref yy), .val (.int v41), .val (.int v42)] [(.int (f9 p2 p3 p4 (4 : Int32)))])) := by
   by_cases hc45 : (f9 p2 p3 p4 (4 : Int32)) = (0 : Int32)
   · refine Go.step (fun t k => XS.ifYes X44.here hx rfl (pc0 := 176) (pc' := 205) rfl (hb hby d5_176) rfl ((if0 _ _).trans (teq hc45).1) (by decide) (by decide) k) ?_
     show Go p e below _ (T44.setTop (mkF m 205 _ []))
     exact Go.here ⟨_, _, by simp only [hv51, hv52, if_pos hc45], X44, N44, e44⟩
   · refine Go.step (fun t k => XS.ifNo X44.here hx rfl (hb hby d5_176) rfl ((if0 _ _).trans (feq hc45).1) k) ?_
     show Go p e below _ (T44.setTop (mkF m 179 _ []))
     refine gJ (q := 181) X44 hx (hb hby d5_179) rfl rfl ?_
     obtain ⟨v49, hv49⟩ : ∃ z : Int32, z = (if v42 = (0 : Int32) then (0 : Int32) else (if (f12 v41 (4 : Int32) ll) = (0 : Int32) then (0 : Int32) else (1 : Int32))) := ⟨_, rfl⟩
     have J181 : Go p e below (AtF p l e ({ frames := 3, cells := 0, slots := 0, locals := 44 } : Room) s m #[(.ref a1), (.int p2), (.int p3), (.int p4)] below meth c n0 0 0 h0 (mkF m 200 #[.val (.ref a1), .val (.int p2), .val (.int p3), .val (.int p4), .val (.ref yy), .val (.int v41), .val (.int v42)] [(.int v49)])) (T44.setTop (mkF m 181 #[.val (.ref a1), .val (.int p2), .val (.int p3), .val (.int p4), .val (.ref yy), .val (.int v41), .val (.int v42)] [(.int v42)])) := by
      by_cases hc46 : v42 = (0 : Int32)
      · refine Go.step (fun t k => XS.ifYes X44.here hx rfl (pc0 := 181) (pc' := 199) rfl (hb hby d5_181) rfl ((if0 _ _).trans (teq hc46).1) (by decide) (by decide) k) ?_
        show Go p e below _ (T44.setTop (mkF m 199 _ []))
        refine gC (q := 200) (v := 0) X44 hx (hb hby d5_199) rfl rfl ?_
        show Go p e below _ (T44.setTop (mkF m 200 _ [(.int (0 : Int32))]))
        exact Go.here ⟨_, _, by simp only [hv49, if_pos hc46], X44, N44, e44⟩
      · refine Go.step (fun t k => XS.ifNo X44.here hx rfl (hb hby d5_181) rfl ((if0 _ _).trans (feq hc46).1) k) ?_
        show Go p e below _ (T44.setTop (mkF m 184 _ []))
        refine gB (q := 186) X44 hx (hb hby d5_184) rfl rfl rfl ?_
        refine gJ (q := 188) X44 hx (hb hby d5_186) rfl rfl ?_
        refine gC (q := 189) (v := 4) X44 hx (hb hby d5_188) rfl rfl ?_
        obtain ⟨_, _, ⟨T47, L47, k47, n47⟩, -, X47, ⟨Lc47, hQ47, l47, y47, z47⟩, st47⟩ := Jvm.LawKit.callS X44 hx (y := (⟨"com/example/hertzbid/hertzbid/ConflictPairsNeighboursPinLaw", "at", "([III)Z"⟩ : MethodName)) hown (mvT hZ (hw _ (List.mem_of_getElem? (i := 42) rfl))) (mvT hZ (hw _ (List.mem_of_getElem? (i := 43) rfl))) (mvT hZ (hw _ (List.mem_of_getElem? (i := 3) rfl))) (mvT hZ (hw _ (List.mem_of_getElem? (i := 44) rfl))) (by decide) (backOf (W := 0) (rm12 l Z a0 hw [] yy v41 (4 : Int32) ll h0 n0 Z0 (by subst_vars; (repeat' split) <;> decide : ¬ v41 < (0 : Int32)) A_yy) hZ (hw _ (List.mem_of_getElem? (i := 44) rfl)) (hw _ (List.mem_of_getElem? (i := 3) rfl)) (by decide) (by decide)) (g := (mkF m 189 #[.val (.ref a1), .val (.int p2), .val (.int p3), .val (.int p4), .val (.ref yy), .val (.int v41), .val (.int v42)] [(.int (4 : Int32)), (.int v41), (.ref yy)])) rfl (by rw [hml]; rfl) (argsL := [(.ref yy), (.int v41), (.int (4 : Int32))]) (rest := []) (lenOf pd_3 rfl) rfl (by show 2 * 0 + _ ≤ _; exact Nat.le_of_eq rfl) (hb hby d5_189) (fun _ _ => ⟨rfl, e44, (by decide : 0 + 0 ≤ _), (by decide : 0 + 0 ≤ _)⟩)
        dsimp only [Pt.U, Pt.locs, Pt.cells, Pt.slots] at X47 l47 y47 z47 st47 hQ47
        replace y47 : k47 = 0 := y47
        replace z47 : n47 = 0 := z47
        subst y47 z47
        obtain ⟨rfl, N47q, e47⟩ := hQ47
        have N47 : Fr n0 L47 := Eq.mpr (congrArg (Fr n0) l47) (Fr.app N44 N47q)
        refine Go.step st47 ?_
        show Go p e below _ (T47.setTop (mkF m 192 _ [(.int (f12 v41 (4 : Int32) ll))]))
        by_cases hc48 : (f12 v41 (4 : Int32) ll) = (0 : Int32)
        · refine Go.step (fun t k => XS.ifYes X47.here hx rfl (pc0 := 192) (pc' := 199) rfl (hb hby d5_192) rfl ((if0 _ _).trans (teq hc48).1) (by decide) (by decide) k) ?_
          show Go p e below _ (T47.setTop (mkF m 199 _ []))
          refine gC (q := 200) (v := 0) X47 hx (hb hby d5_199) rfl rfl ?_
          show Go p e below _ (T47.setTop (mkF m 200 _ [(.int (0 : Int32))]))
          exact Go.here ⟨_, _, by simp only [hv49, if_neg hc46, if_pos hc48], X47, N47, e47⟩
        · refine Go.step (fun t k => XS.ifNo X47.here hx rfl (hb hby d5_192) rfl ((if0 _ _).trans (feq hc48).1) k) ?_
          show Go p e below _ (T47.setTop (mkF m 195 _ []))
          refine gC (q := 196) (v := 1) X47 hx (hb hby d5_195) rfl rfl ?_
          refine Go.step (fun t k => XS.goto X47.here hx rfl (pc0 := 196) (pc' := 200) rfl (hb hby d5_196) (by decide) (by decide) k) ?_
          show Go p e below _ (T47.setTop (mkF m 200 _ [(.int (1 : Int32))]))
          exact Go.here ⟨_, _, by simp only [hv49, if_neg hc46, if_neg hc48], X47, N47, e47⟩
     obtain ⟨_, st50, T50, Lj50, rfl, X50, N50, e50⟩ := J181
     refine Go.trans st50 ?_
     show Go p e below _ (T50.setTop (mkF m 200 _ [(.int v49)]))
     refine Go.step (fun t k => XS.istore X50.here hx rfl (hb hby d5_200) rfl (l' := #[.val (.ref a1), .val (.int p2), .val (.int p3), .val (.int p4), .val (.ref yy), .val (.int v41), .val (.int v49)]) rfl k) ?_
     show Go p e below _ (T50.setTop (mkF m 202 _ []))
     refine Go.step (fun t k => XS.iinc X50.here hx rfl (hb hby d5_202) rfl (l' := #[.val (.ref a1), .val (.int p2), .val (.int p3), .val (.int p4), .val (.ref yy), .val (.int (v41 + (1 : Int32))), .val (.int v49)]) rfl k) ?_
     show Go p e below _ (T50.setTop (mkF m 205 _ []))
     subst hv49
     exact Go.here ⟨_, _, by simp only [hv51, hv52, if_neg hc45], X50, N50, e50⟩
  obtain ⟨_, st53, T53, Lj53, rfl, X53, N53, e53⟩ := J176
  refine Go.trans st53 ?_
  show Go p e below _ (T53.setTop (mkF m 205 _ []))
  refine gJ (q := 207) X53 hx (hb hby d5_205) rfl rfl ?_
  by_cases hc54 : v52 = (0 : Int32)
  · refine Go.step (fun t k => XS.ifYes X53.here hx rfl (pc0 := 207) (pc' := 222) rfl (hb hby d5_207) rfl ((if0 _ _).trans (teq hc54).1) (by decide) (by decide) k) ?_
    show Go p e below _ (T53.setTop (mkF m 222 _ []))
    refine gC (q := 223) (v := 0) X53 hx (hb hby d5_222) rfl rfl ?_
    subst hv52
    subst hv51
    subst hv42
    subst hv41
    subst hv32
    subst hv31
    subst hv22
    subst hv21
    subst hv12
    subst hv11
    exact retGN X53 hx Bd.notSynchronized Bd.returns (t := .boolean) (by simp) (z' := (0 : Int32)) rfl (hb hby d5_223) ⟨by first | (simp only [f5, if_pos hc54]; done) | rfl | (simp [f5, if_pos hc54]; done), N53, e53⟩ (by decide) (by decide)
  · refine Go.step (fun t k => XS.ifNo X53.here hx rfl (hb hby d5_207) rfl ((if0 _ _).trans (feq hc54).1) k) ?_
    show Go p e below _ (T53.setTop (mkF m 210 _ []))
    refine gJ (q := 212) X53 hx (hb hby d5_210) rfl rfl ?_
    refine gB (q := 214) X53 hx (hb hby d5_212) rfl rfl rfl ?_
    refine Go.step (lenA X53 hx hZ e53 A_yy (g := (mkF m 214 _ [(.ref yy), (.int v51)])) rfl rfl (hb hby d5_214)) ?_
    show Go p e below _ (T53.setTop (mkF m 215 _ [(.int ll.length.toInt32), (.int v51)]))
    by_cases hc55 : v51 = ll.length.toInt32
    · refine Go.step (fun t k => XS.icmpNo X53.here hx rfl (hb hby d5_215) rfl (teq hc55).2 k) ?_
      show Go p e below _ (T53.setTop (mkF m 218 _ []))
      refine gC (q := 219) (v := 1) X53 hx (hb hby d5_218) rfl rfl ?_
      refine Go.step (fun t k => XS.goto X53.here hx rfl (pc0 := 219) (pc' := 223) rfl (hb hby d5_219) (by decide) (by decide) k) ?_
      show Go p e below _ (T53.setTop (mkF m 223 _ [(.int (1 : Int32))]))
      subst hv52
      subst hv51
      subst hv42
      subst hv41
      subst hv32
      subst hv31
      subst hv22
      subst hv21
      subst hv12
      subst hv11
      exact retGN X53 hx Bd.notSynchronized Bd.returns (t := .boolean) (by simp) (z' := (1 : Int32)) rfl (hb hby d5_223) ⟨by first | (simp only [f5, if_neg hc54, if_pos hc55]; done) | rfl | (simp [f5, if_neg hc54, if_pos hc55]; done), N53, e53⟩ (by decide) (by decide)
    · refine Go.step (fun t k => XS.icmpYes X53.here hx rfl (pc0 := 215) (pc' := 222) rfl (hb hby d5_215) rfl (feq hc55).2 (by decide) (by decide) k) ?_
      show Go p e below _ (T53.setTop (mkF m 222 _ []))
      refine gC (q := 223) (v := 0) X53 hx (hb hby d5_222) rfl rfl ?_
      subst hv52
      subst hv51
      subst hv42
      subst hv41
      subst hv32
      subst hv31
      subst hv22
      subst hv21
      subst hv12
      subst hv11
      exact retGN X53 hx Bd.notSynchronized Bd.returns (t := .boolean) (by simp) (z' := (0 : Int32)) rfl (hb hby d5_223) ⟨by first | (simp only [f5, if_neg hc54, if_neg hc55]; done) | rfl | (simp [f5, if_neg hc54, if_neg hc55]; done), N53, e53⟩ (by decide) (by decide)
theorem nb_nil (i : Nat) : nb [] i = [] := rfl
def EE (bits n : Int32) : List (Nat × Nat) := (putE (f2 bits n (3 : Int32) (4 : Int32)) (3, 4) (putE (f2 bits n (2 : Int32) (4 : Int32)) (2, 4) (putE (f2 bits n (2 : Int32) (3 : Int32)) (2, 3) (putE (f2 bits n (1 : Int32) (4 : Int32)) (1, 4) (putE (f2 bits n (1 : Int32) (3 : Int32)) (1, 3) (putE (f2 bits n (1 : Int32) (2 : Int32)) (1, 2) (putE (f2 bits n (0 : Int32) (4 : Int32)) (0, 4) (putE (f2 bits n (0 : Int32) (3 : Int32)) (0, 3) (putE (f2 bits n (0 : Int32) (2 : Int32)) (0, 2) (putE (f2 bits n (0 : Int32) (1 : Int32)) (0, 1) ([] : List (Nat × Nat))))))))))))
theorem own_f1 (a b c d : Int32) : f1 a b c d = Int32.ofNat (oN (f2 a b c d)) := by
  unfold f1 oN; split <;> rfl
theorem own_len (bits n : Int32) : (EE bits n).length = oN (f2 bits n (0 : Int32) (1 : Int32)) + oN (f2 bits n (0 : Int32) (2 : Int32)) + oN (f2 bits n (0 : Int32) (3 : Int32)) + oN (f2 bits n (0 : Int32) (4 : Int32)) + oN (f2 bits n (1 : Int32) (2 : Int32)) + oN (f2 bits n (1 : Int32) (3 : Int32)) + oN (f2 bits n (1 : Int32) (4 : Int32)) + oN (f2 bits n (2 : Int32) (3 : Int32)) + oN (f2 bits n (2 : Int32) (4 : Int32)) + oN (f2 bits n (3 : Int32) (4 : Int32)) := by
  simp only [EE, lenP, List.length_nil, Nat.zero_add]
theorem own_10 (bits n : Int32) : (EE bits n).length ≤ 10 := by
  rw [own_len]
  have o0 := oN_le (f2 bits n (0 : Int32) (1 : Int32))
  have o1 := oN_le (f2 bits n (0 : Int32) (2 : Int32))
  have o2 := oN_le (f2 bits n (0 : Int32) (3 : Int32))
  have o3 := oN_le (f2 bits n (0 : Int32) (4 : Int32))
  have o4 := oN_le (f2 bits n (1 : Int32) (2 : Int32))
  have o5 := oN_le (f2 bits n (1 : Int32) (3 : Int32))
  have o6 := oN_le (f2 bits n (1 : Int32) (4 : Int32))
  have o7 := oN_le (f2 bits n (2 : Int32) (3 : Int32))
  have o8 := oN_le (f2 bits n (2 : Int32) (4 : Int32))
  have o9 := oN_le (f2 bits n (3 : Int32) (4 : Int32))
  omega
theorem own_cnt (bits n : Int32) : ((((((((((f1 bits n (0 : Int32) (1 : Int32)) + (f1 bits n (0 : Int32) (2 : Int32))) + (f1 bits n (0 : Int32) (3 : Int32))) + (f1 bits n (0 : Int32) (4 : Int32))) + (f1 bits n (1 : Int32) (2 : Int32))) + (f1 bits n (1 : Int32) (3 : Int32))) + (f1 bits n (1 : Int32) (4 : Int32))) + (f1 bits n (2 : Int32) (3 : Int32))) + (f1 bits n (2 : Int32) (4 : Int32))) + (f1 bits n (3 : Int32) (4 : Int32))) = Int32.ofNat (EE bits n).length := by
  simp only [own_f1, own_len, ← Int32.ofNat_add]
theorem own_cap {bits n v : Int32} (h : v = ((((((((((f1 bits n (0 : Int32) (1 : Int32)) + (f1 bits n (0 : Int32) (2 : Int32))) + (f1 bits n (0 : Int32) (3 : Int32))) + (f1 bits n (0 : Int32) (4 : Int32))) + (f1 bits n (1 : Int32) (2 : Int32))) + (f1 bits n (1 : Int32) (3 : Int32))) + (f1 bits n (1 : Int32) (4 : Int32))) + (f1 bits n (2 : Int32) (3 : Int32))) + (f1 bits n (2 : Int32) (4 : Int32))) + (f1 bits n (3 : Int32) (4 : Int32)))) : ¬ v < 0 ∧ v.toNatClampNeg ≤ 10 ∧ v.toNatClampNeg = (EE bits n).length := by
  have := own_10 bits n
  rw [h, own_cnt]
  refine ⟨of_nn (by omega), ?_, clamp_nat (by omega)⟩
  rw [clamp_nat (by omega)]; exact this
theorem own_b0 (bits n : Int32) (h : ¬ ((f2 bits n (0 : Int32) (1 : Int32)) = (0 : Int32))) : ([] : List (Nat × Nat)).length < (EE bits n).length := by
  rw [own_len]
  simp only [lenP, List.length_nil, Nat.zero_add]
  have := oN_1 h
  omega
theorem own_l0 (bits n : Int32) : ([] : List (Nat × Nat)).length < 2147483648 := by
  simp only [lenP, List.length_nil, Nat.zero_add]
  have o0 := oN_le (f2 bits n (0 : Int32) (1 : Int32))
  have o1 := oN_le (f2 bits n (0 : Int32) (2 : Int32))
  have o2 := oN_le (f2 bits n (0 : Int32) (3 : Int32))
  have o3 := oN_le (f2 bits n (0 : Int32) (4 : Int32))
  have o4 := oN_le (f2 bits n (1 : Int32) (2 : Int32))
  have o5 := oN_le (f2 bits n (1 : Int32) (3 : Int32))
  have o6 := oN_le (f2 bits n (1 : Int32) (4 : Int32))
  have o7 := oN_le (f2 bits n (2 : Int32) (3 : Int32))
  have o8 := oN_le (f2 bits n (2 : Int32) (4 : Int32))
  have o9 := oN_le (f2 bits n (3 : Int32) (4 : Int32))
  omega
theorem own_b1 (bits n : Int32) (h : ¬ ((f2 bits n (0 : Int32) (2 : Int32)) = (0 : Int32))) : (putE (f2 bits n (0 : Int32) (1 : Int32)) (0, 1) ([] : List (Nat × Nat))).length < (EE bits n).length := by
  rw [own_len]
  simp only [lenP, List.length_nil, Nat.zero_add]
  have := oN_1 h
  omega
theorem own_l1 (bits n : Int32) : (putE (f2 bits n (0 : Int32) (1 : Int32)) (0, 1) ([] : List (Nat × Nat))).length < 2147483648 := by
  simp only [lenP, List.length_nil, Nat.zero_add]
  have o0 := oN_le (f2 bits n (0 : Int32) (1 : Int32))
  have o1 := oN_le (f2 bits n (0 : Int32) (2 : Int32))
  have o2 := oN_le (f2 bits n (0 : Int32) (3 : Int32))
  have o3 := oN_le (f2 bits n (0 : Int32) (4 : Int32))
  have o4 := oN_le (f2 bits n (1 : Int32) (2 : Int32))
  have o5 := oN_le (f2 bits n (1 : Int32) (3 : Int32))
  have o6 := oN_le (f2 bits n (1 : Int32) (4 : Int32))
  have o7 := oN_le (f2 bits n (2 : Int32) (3 : Int32))
  have o8 := oN_le (f2 bits n (2 : Int32) (4 : Int32))
  have o9 := oN_le (f2 bits n (3 : Int32) (4 : Int32))
  omega
theorem own_b2 (bits n : Int32) (h : ¬ ((f2 bits n (0 : Int32) (3 : Int32)) = (0 : Int32))) : (putE (f2 bits n (0 : Int32) (2 : Int32)) (0, 2) (putE (f2 bits n (0 : Int32) (1 : Int32)) (0, 1) ([] : List (Nat × Nat)))).length < (EE bits n).length := by
  rw [own_len]
  simp only [lenP, List.length_nil, Nat.zero_add]
  have := oN_1 h
  omega
theorem own_l2 (bits n : Int32) : (putE (f2 bits n (0 : Int32) (2 : Int32)) (0, 2) (putE (f2 bits n (0 : Int32) (1 : Int32)) (0, 1) ([] : List (Nat × Nat)))).length < 2147483648 := by
  simp only [lenP, List.length_nil, Nat.zero_add]
  have o0 := oN_le (f2 bits n (0 : Int32) (1 : Int32))
  have o1 := oN_le (f2 bits n (0 : Int32) (2 : Int32))
  have o2 := oN_le (f2 bits n (0 : Int32) (3 : Int32))
  have o3 := oN_le (f2 bits n (0 : Int32) (4 : Int32))
  have o4 := oN_le (f2 bits n (1 : Int32) (2 : Int32))
  have o5 := oN_le (f2 bits n (1 : Int32) (3 : Int32))
  have o6 := oN_le (f2 bits n (1 : Int32) (4 : Int32))
  have o7 := oN_le (f2 bits n (2 : Int32) (3 : Int32))
  have o8 := oN_le (f2 bits n (2 : Int32) (4 : Int32))
  have o9 := oN_le (f2 bits n (3 : Int32) (4 : Int32))
  omega
theorem own_b3 (bits n : Int32) (h : ¬ ((f2 bits n (0 : Int32) (4 : Int32)) = (0 : Int32))) : (putE (f2 bits n (0 : Int32) (3 : Int32)) (0, 3) (putE (f2 bits n (0 : Int32) (2 : Int32)) (0, 2) (putE (f2 bits n (0 : Int32) (1 : Int32)) (0, 1) ([] : List (Nat × Nat))))).length < (EE bits n).length := by
  rw [own_len]
  simp only [lenP, List.length_nil, Nat.zero_add]
  have := oN_1 h
  omega
theorem own_l3 (bits n : Int32) : (putE (f2 bits n (0 : Int32) (3 : Int32)) (0, 3) (putE (f2 bits n (0 : Int32) (2 : Int32)) (0, 2) (putE (f2 bits n (0 : Int32) (1 : Int32)) (0, 1) ([] : List (Nat × Nat))))).length < 2147483648 := by
  simp only [lenP, List.length_nil, Nat.zero_add]
  have o0 := oN_le (f2 bits n (0 : Int32) (1 : Int32))
  have o1 := oN_le (f2 bits n (0 : Int32) (2 : Int32))
  have o2 := oN_le (f2 bits n (0 : Int32) (3 : Int32))
  have o3 := oN_le (f2 bits n (0 : Int32) (4 : Int32))
  have o4 := oN_le (f2 bits n (1 : Int32) (2 : Int32))
  have o5 := oN_le (f2 bits n (1 : Int32) (3 : Int32))
  have o6 := oN_le (f2 bits n (1 : Int32) (4 : Int32))
  have o7 := oN_le (f2 bits n (2 : Int32) (3 : Int32))
  have o8 := oN_le (f2 bits n (2 : Int32) (4 : Int32))
  have o9 := oN_le (f2 bits n (3 : Int32) (4 : Int32))
  omega
theorem own_b4 (bits n : Int32) (h : ¬ ((f2 bits n (1 : Int32) (2 : Int32)) = (0 : Int32))) : (putE (f2 bits n (0 : Int32) (4 : Int32)) (0, 4) (putE (f2 bits n (0 : Int32) (3 : Int32)) (0, 3) (putE (f2 bits n (0 : Int32) (2 : Int32)) (0, 2) (putE (f2 bits n (0 : Int32) (1 : Int32)) (0, 1) ([] : List (Nat × Nat)))))).length < (EE bits n).length := by
  rw [own_len]
  simp only [lenP, List.length_nil, Nat.zero_add]
  have := oN_1 h
  omega
theorem own_l4 (bits n : Int32) : (putE (f2 bits n (0 : Int32) (4 : Int32)) (0, 4) (putE (f2 bits n (0 : Int32) (3 : Int32)) (0, 3) (putE (f2 bits n (0 : Int32) (2 : Int32)) (0, 2) (putE (f2 bits n (0 : Int32) (1 : Int32)) (0, 1) ([] : List (Nat × Nat)))))).length < 2147483648 := by
  simp only [lenP, List.length_nil, Nat.zero_add]
  have o0 := oN_le (f2 bits n (0 : Int32) (1 : Int32))
  have o1 := oN_le (f2 bits n (0 : Int32) (2 : Int32))
  have o2 := oN_le (f2 bits n (0 : Int32) (3 : Int32))
  have o3 := oN_le (f2 bits n (0 : Int32) (4 : Int32))
  have o4 := oN_le (f2 bits n (1 : Int32) (2 : Int32))
  have o5 := oN_le (f2 bits n (1 : Int32) (3 : Int32))
  have o6 := oN_le (f2 bits n (1 : Int32) (4 : Int32))
  have o7 := oN_le (f2 bits n (2 : Int32) (3 : Int32))
  have o8 := oN_le (f2 bits n (2 : Int32) (4 : Int32))
  have o9 := oN_le (f2 bits n (3 : Int32) (4 : Int32))
  omega
theorem own_b5 (bits n : Int32) (h : ¬ ((f2 bits n (1 : Int32) (3 : Int32)) = (0 : Int32))) : (putE (f2 bits n (1 : Int32) (2 : Int32)) (1, 2) (putE (f2 bits n (0 : Int32) (4 : Int32)) (0, 4) (putE (f2 bits n (0 : Int32) (3 : Int32)) (0, 3) (putE (f2 bits n (0 : Int32) (2 : Int32)) (0, 2) (putE (f2 bits n (0 : Int32) (1 : Int32)) (0, 1) ([] : List (Nat × Nat))))))).length < (EE bits n).length := by
  rw [own_len]
  simp only [lenP, List.length_nil, Nat.zero_add]
  have := oN_1 h
  omega
theorem own_l5 (bits n : Int32) : (putE (f2 bits n (1 : Int32) (2 : Int32)) (1, 2) (putE (f2 bits n (0 : Int32) (4 : Int32)) (0, 4) (putE (f2 bits n (0 : Int32) (3 : Int32)) (0, 3) (putE (f2 bits n (0 : Int32) (2 : Int32)) (0, 2) (putE (f2 bits n (0 : Int32) (1 : Int32)) (0, 1) ([] : List (Nat × Nat))))))).length < 2147483648 := by
  simp only [lenP, List.length_nil, Nat.zero_add]
  have o0 := oN_le (f2 bits n (0 : Int32) (1 : Int32))
  have o1 := oN_le (f2 bits n (0 : Int32) (2 : Int32))
  have o2 := oN_le (f2 bits n (0 : Int32) (3 : Int32))
  have o3 := oN_le (f2 bits n (0 : Int32) (4 : Int32))
  have o4 := oN_le (f2 bits n (1 : Int32) (2 : Int32))
  have o5 := oN_le (f2 bits n (1 : Int32) (3 : Int32))
  have o6 := oN_le (f2 bits n (1 : Int32) (4 : Int32))
  have o7 := oN_le (f2 bits n (2 : Int32) (3 : Int32))
  have o8 := oN_le (f2 bits n (2 : Int32) (4 : Int32))
  have o9 := oN_le (f2 bits n (3 : Int32) (4 : Int32))
  omega
theorem own_b6 (bits n : Int32) (h : ¬ ((f2 bits n (1 : Int32) (4 : Int32)) = (0 : Int32))) : (putE (f2 bits n (1 : Int32) (3 : Int32)) (1, 3) (putE (f2 bits n (1 : Int32) (2 : Int32)) (1, 2) (putE (f2 bits n (0 : Int32) (4 : Int32)) (0, 4) (putE (f2 bits n (0 : Int32) (3 : Int32)) (0, 3) (putE (f2 bits n (0 : Int32) (2 : Int32)) (0, 2) (putE (f2 bits n (0 : Int32) (1 : Int32)) (0, 1) ([] : List (Nat × Nat)))))))).length < (EE bits n).length := by
  rw [own_len]
  simp only [lenP, List.length_nil, Nat.zero_add]
  have := oN_1 h
  omega
theorem own_l6 (bits n : Int32) : (putE (f2 bits n (1 : Int32) (3 : Int32)) (1, 3) (putE (f2 bits n (1 : Int32) (2 : Int32)) (1, 2) (putE (f2 bits n (0 : Int32) (4 : Int32)) (0, 4) (putE (f2 bits n (0 : Int32) (3 : Int32)) (0, 3) (putE (f2 bits n (0 : Int32) (2 : Int32)) (0, 2) (putE (f2 bits n (0 : Int32) (1 : Int32)) (0, 1) ([] : List (Nat × Nat)))))))).length < 2147483648 := by
  simp only [lenP, List.length_nil, Nat.zero_add]
  have o0 := oN_le (f2 bits n (0 : Int32) (1 : Int32))
  have o1 := oN_le (f2 bits n (0 : Int32) (2 : Int32))
  have o2 := oN_le (f2 bits n (0 : Int32) (3 : Int32))
  have o3 := oN_le (f2 bits n (0 : Int32) (4 : Int32))
  have o4 := oN_le (f2 bits n (1 : Int32) (2 : Int32))
  have o5 := oN_le (f2 bits n (1 : Int32) (3 : Int32))
  have o6 := oN_le (f2 bits n (1 : Int32) (4 : Int32))
  have o7 := oN_le (f2 bits n (2 : Int32) (3 : Int32))
  have o8 := oN_le (f2 bits n (2 : Int32) (4 : Int32))
  have o9 := oN_le (f2 bits n (3 : Int32) (4 : Int32))
  omega
theorem own_b7 (bits n : Int32) (h : ¬ ((f2 bits n (2 : Int32) (3 : Int32)) = (0 : Int32))) : (putE (f2 bits n (1 : Int32) (4 : Int32)) (1, 4) (putE (f2 bits n (1 : Int32) (3 : Int32)) (1, 3) (putE (f2 bits n (1 : Int32) (2 : Int32)) (1, 2) (putE (f2 bits n (0 : Int32) (4 : Int32)) (0, 4) (putE (f2 bits n (0 : Int32) (3 : Int32)) (0, 3) (putE (f2 bits n (0 : Int32) (2 : Int32)) (0, 2) (putE (f2 bits n (0 : Int32) (1 : Int32)) (0, 1) ([] : List (Nat × Nat))))))))).length < (EE bits n).length := by
  rw [own_len]
  simp only [lenP, List.length_nil, Nat.zero_add]
  have := oN_1 h
  omega
theorem own_l7 (bits n : Int32) : (putE (f2 bits n (1 : Int32) (4 : Int32)) (1, 4) (putE (f2 bits n (1 : Int32) (3 : Int32)) (1, 3) (putE (f2 bits n (1 : Int32) (2 : Int32)) (1, 2) (putE (f2 bits n (0 : Int32) (4 : Int32)) (0, 4) (putE (f2 bits n (0 : Int32) (3 : Int32)) (0, 3) (putE (f2 bits n (0 : Int32) (2 : Int32)) (0, 2) (putE (f2 bits n (0 : Int32) (1 : Int32)) (0, 1) ([] : List (Nat × Nat))))))))).length < 2147483648 := by
  simp only [lenP, List.length_nil, Nat.zero_add]
  have o0 := oN_le (f2 bits n (0 : Int32) (1 : Int32))
  have o1 := oN_le (f2 bits n (0 : Int32) (2 : Int32))
  have o2 := oN_le (f2 bits n (0 : Int32) (3 : Int32))
  have o3 := oN_le (f2 bits n (0 : Int32) (4 : Int32))
  have o4 := oN_le (f2 bits n (1 : Int32) (2 : Int32))
  have o5 := oN_le (f2 bits n (1 : Int32) (3 : Int32))
  have o6 := oN_le (f2 bits n (1 : Int32) (4 : Int32))
  have o7 := oN_le (f2 bits n (2 : Int32) (3 : Int32))
  have o8 := oN_le (f2 bits n (2 : Int32) (4 : Int32))
  have o9 := oN_le (f2 bits n (3 : Int32) (4 : Int32))
  omega
theorem own_b8 (bits n : Int32) (h : ¬ ((f2 bits n (2 : Int32) (4 : Int32)) = (0 : Int32))) : (putE (f2 bits n (2 : Int32) (3 : Int32)) (2, 3) (putE (f2 bits n (1 : Int32) (4 : Int32)) (1, 4) (putE (f2 bits n (1 : Int32) (3 : Int32)) (1, 3) (putE (f2 bits n (1 : Int32) (2 : Int32)) (1, 2) (putE (f2 bits n (0 : Int32) (4 : Int32)) (0, 4) (putE (f2 bits n (0 : Int32) (3 : Int32)) (0, 3) (putE (f2 bits n (0 : Int32) (2 : Int32)) (0, 2) (putE (f2 bits n (0 : Int32) (1 : Int32)) (0, 1) ([] : List (Nat × Nat)))))))))).length < (EE bits n).length := by
  rw [own_len]
  simp only [lenP, List.length_nil, Nat.zero_add]
  have := oN_1 h
  omega
theorem own_l8 (bits n : Int32) : (putE (f2 bits n (2 : Int32) (3 : Int32)) (2, 3) (putE (f2 bits n (1 : Int32) (4 : Int32)) (1, 4) (putE (f2 bits n (1 : Int32) (3 : Int32)) (1, 3) (putE (f2 bits n (1 : Int32) (2 : Int32)) (1, 2) (putE (f2 bits n (0 : Int32) (4 : Int32)) (0, 4) (putE (f2 bits n (0 : Int32) (3 : Int32)) (0, 3) (putE (f2 bits n (0 : Int32) (2 : Int32)) (0, 2) (putE (f2 bits n (0 : Int32) (1 : Int32)) (0, 1) ([] : List (Nat × Nat)))))))))).length < 2147483648 := by
  simp only [lenP, List.length_nil, Nat.zero_add]
  have o0 := oN_le (f2 bits n (0 : Int32) (1 : Int32))
  have o1 := oN_le (f2 bits n (0 : Int32) (2 : Int32))
  have o2 := oN_le (f2 bits n (0 : Int32) (3 : Int32))
  have o3 := oN_le (f2 bits n (0 : Int32) (4 : Int32))
  have o4 := oN_le (f2 bits n (1 : Int32) (2 : Int32))
  have o5 := oN_le (f2 bits n (1 : Int32) (3 : Int32))
  have o6 := oN_le (f2 bits n (1 : Int32) (4 : Int32))
  have o7 := oN_le (f2 bits n (2 : Int32) (3 : Int32))
  have o8 := oN_le (f2 bits n (2 : Int32) (4 : Int32))
  have o9 := oN_le (f2 bits n (3 : Int32) (4 : Int32))
  omega
theorem own_b9 (bits n : Int32) (h : ¬ ((f2 bits n (3 : Int32) (4 : Int32)) = (0 : Int32))) : (putE (f2 bits n (2 : Int32) (4 : Int32)) (2, 4) (putE (f2 bits n (2 : Int32) (3 : Int32)) (2, 3) (putE (f2 bits n (1 : Int32) (4 : Int32)) (1, 4) (putE (f2 bits n (1 : Int32) (3 : Int32)) (1, 3) (putE (f2 bits n (1 : Int32) (2 : Int32)) (1, 2) (putE (f2 bits n (0 : Int32) (4 : Int32)) (0, 4) (putE (f2 bits n (0 : Int32) (3 : Int32)) (0, 3) (putE (f2 bits n (0 : Int32) (2 : Int32)) (0, 2) (putE (f2 bits n (0 : Int32) (1 : Int32)) (0, 1) ([] : List (Nat × Nat))))))))))).length < (EE bits n).length := by
  rw [own_len]
  simp only [lenP, List.length_nil, Nat.zero_add]
  have := oN_1 h
  omega
theorem own_l9 (bits n : Int32) : (putE (f2 bits n (2 : Int32) (4 : Int32)) (2, 4) (putE (f2 bits n (2 : Int32) (3 : Int32)) (2, 3) (putE (f2 bits n (1 : Int32) (4 : Int32)) (1, 4) (putE (f2 bits n (1 : Int32) (3 : Int32)) (1, 3) (putE (f2 bits n (1 : Int32) (2 : Int32)) (1, 2) (putE (f2 bits n (0 : Int32) (4 : Int32)) (0, 4) (putE (f2 bits n (0 : Int32) (3 : Int32)) (0, 3) (putE (f2 bits n (0 : Int32) (2 : Int32)) (0, 2) (putE (f2 bits n (0 : Int32) (1 : Int32)) (0, 1) ([] : List (Nat × Nat))))))))))).length < 2147483648 := by
  simp only [lenP, List.length_nil, Nat.zero_add]
  have o0 := oN_le (f2 bits n (0 : Int32) (1 : Int32))
  have o1 := oN_le (f2 bits n (0 : Int32) (2 : Int32))
  have o2 := oN_le (f2 bits n (0 : Int32) (3 : Int32))
  have o3 := oN_le (f2 bits n (0 : Int32) (4 : Int32))
  have o4 := oN_le (f2 bits n (1 : Int32) (2 : Int32))
  have o5 := oN_le (f2 bits n (1 : Int32) (3 : Int32))
  have o6 := oN_le (f2 bits n (1 : Int32) (4 : Int32))
  have o7 := oN_le (f2 bits n (2 : Int32) (3 : Int32))
  have o8 := oN_le (f2 bits n (2 : Int32) (4 : Int32))
  have o9 := oN_le (f2 bits n (3 : Int32) (4 : Int32))
  omega
theorem own_n6 (m v : Int32) (hv : v = (m &&& (2147483647 : Int32)) % (6 : Int32)) (h0 : ¬ (v = (0 : Int32))) (h1 : ¬ (v = (1 : Int32))) (h2 : ¬ (v = (2 : Int32))) (h3 : ¬ (v = (3 : Int32))) (h4 : ¬ (v = (4 : Int32))) (h5 : ¬ (v = (5 : Int32))) : False := by
  have h := c_mask m 2147483647 31 (by decide) (by decide)
  have h' : 0 ≤ (m &&& (2147483647 : Int32)).toInt := by rw [h]; omega
  have e := modI (x := m &&& (2147483647 : Int32)) (y := 6) 6 (by decide) h'
  rw [← hv] at e
  rw [← Int32.toInt_inj, show (0 : Int32).toInt = 0 by decide] at h0
  rw [← Int32.toInt_inj, show (1 : Int32).toInt = 1 by decide] at h1
  rw [← Int32.toInt_inj, show (2 : Int32).toInt = 2 by decide] at h2
  rw [← Int32.toInt_inj, show (3 : Int32).toInt = 3 by decide] at h3
  rw [← Int32.toInt_inj, show (4 : Int32).toInt = 4 by decide] at h4
  rw [← Int32.toInt_inj, show (5 : Int32).toInt = 5 by decide] at h5
  omega
theorem f2z {bits n a b : Int32} (h : ¬ (b < n)) : f2 bits n a b = 0 := by unfold f2; rw [if_neg h]
theorem f2_01 (bits n a b : Int32) : f2 bits n a b = 0 ∨ f2 bits n a b = 1 := by
  unfold f2; split
  · split <;> simp
  · simp
theorem f9_00 (b n : Int32) : f9 b n (0 : Int32) (0 : Int32) = 0 := by unfold f9; rw [if_pos rfl]
theorem f9_01 (b n : Int32) : f9 b n (0 : Int32) (1 : Int32) = nar .boolean (f2 b n (0 : Int32) (1 : Int32)) := by unfold f9; rw [if_neg (by decide), show f10 (0 : Int32) (1 : Int32) = (0 : Int32) by decide, show f11 (0 : Int32) (1 : Int32) = (1 : Int32) by decide]
theorem f9_02 (b n : Int32) : f9 b n (0 : Int32) (2 : Int32) = nar .boolean (f2 b n (0 : Int32) (2 : Int32)) := by unfold f9; rw [if_neg (by decide), show f10 (0 : Int32) (2 : Int32) = (0 : Int32) by decide, show f11 (0 : Int32) (2 : Int32) = (2 : Int32) by decide]
theorem f9_03 (b n : Int32) : f9 b n (0 : Int32) (3 : Int32) = nar .boolean (f2 b n (0 : Int32) (3 : Int32)) := by unfold f9; rw [if_neg (by decide), show f10 (0 : Int32) (3 : Int32) = (0 : Int32) by decide, show f11 (0 : Int32) (3 : Int32) = (3 : Int32) by decide]
theorem f9_04 (b n : Int32) : f9 b n (0 : Int32) (4 : Int32) = nar .boolean (f2 b n (0 : Int32) (4 : Int32)) := by unfold f9; rw [if_neg (by decide), show f10 (0 : Int32) (4 : Int32) = (0 : Int32) by decide, show f11 (0 : Int32) (4 : Int32) = (4 : Int32) by decide]
theorem f9_10 (b n : Int32) : f9 b n (1 : Int32) (0 : Int32) = nar .boolean (f2 b n (0 : Int32) (1 : Int32)) := by unfold f9; rw [if_neg (by decide), show f10 (1 : Int32) (0 : Int32) = (0 : Int32) by decide, show f11 (1 : Int32) (0 : Int32) = (1 : Int32) by decide]
theorem f9_11 (b n : Int32) : f9 b n (1 : Int32) (1 : Int32) = 0 := by unfold f9; rw [if_pos rfl]
theorem f9_12 (b n : Int32) : f9 b n (1 : Int32) (2 : Int32) = nar .boolean (f2 b n (1 : Int32) (2 : Int32)) := by unfold f9; rw [if_neg (by decide), show f10 (1 : Int32) (2 : Int32) = (1 : Int32) by decide, show f11 (1 : Int32) (2 : Int32) = (2 : Int32) by decide]
theorem f9_13 (b n : Int32) : f9 b n (1 : Int32) (3 : Int32) = nar .boolean (f2 b n (1 : Int32) (3 : Int32)) := by unfold f9; rw [if_neg (by decide), show f10 (1 : Int32) (3 : Int32) = (1 : Int32) by decide, show f11 (1 : Int32) (3 : Int32) = (3 : Int32) by decide]
theorem f9_14 (b n : Int32) : f9 b n (1 : Int32) (4 : Int32) = nar .boolean (f2 b n (1 : Int32) (4 : Int32)) := by unfold f9; rw [if_neg (by decide), show f10 (1 : Int32) (4 : Int32) = (1 : Int32) by decide, show f11 (1 : Int32) (4 : Int32) = (4 : Int32) by decide]
theorem f9_20 (b n : Int32) : f9 b n (2 : Int32) (0 : Int32) = nar .boolean (f2 b n (0 : Int32) (2 : Int32)) := by unfold f9; rw [if_neg (by decide), show f10 (2 : Int32) (0 : Int32) = (0 : Int32) by decide, show f11 (2 : Int32) (0 : Int32) = (2 : Int32) by decide]
theorem f9_21 (b n : Int32) : f9 b n (2 : Int32) (1 : Int32) = nar .boolean (f2 b n (1 : Int32) (2 : Int32)) := by unfold f9; rw [if_neg (by decide), show f10 (2 : Int32) (1 : Int32) = (1 : Int32) by decide, show f11 (2 : Int32) (1 : Int32) = (2 : Int32) by decide]
theorem f9_22 (b n : Int32) : f9 b n (2 : Int32) (2 : Int32) = 0 := by unfold f9; rw [if_pos rfl]
theorem f9_23 (b n : Int32) : f9 b n (2 : Int32) (3 : Int32) = nar .boolean (f2 b n (2 : Int32) (3 : Int32)) := by unfold f9; rw [if_neg (by decide), show f10 (2 : Int32) (3 : Int32) = (2 : Int32) by decide, show f11 (2 : Int32) (3 : Int32) = (3 : Int32) by decide]
theorem f9_24 (b n : Int32) : f9 b n (2 : Int32) (4 : Int32) = nar .boolean (f2 b n (2 : Int32) (4 : Int32)) := by unfold f9; rw [if_neg (by decide), show f10 (2 : Int32) (4 : Int32) = (2 : Int32) by decide, show f11 (2 : Int32) (4 : Int32) = (4 : Int32) by decide]
theorem f9_30 (b n : Int32) : f9 b n (3 : Int32) (0 : Int32) = nar .boolean (f2 b n (0 : Int32) (3 : Int32)) := by unfold f9; rw [if_neg (by decide), show f10 (3 : Int32) (0 : Int32) = (0 : Int32) by decide, show f11 (3 : Int32) (0 : Int32) = (3 : Int32) by decide]
theorem f9_31 (b n : Int32) : f9 b n (3 : Int32) (1 : Int32) = nar .boolean (f2 b n (1 : Int32) (3 : Int32)) := by unfold f9; rw [if_neg (by decide), show f10 (3 : Int32) (1 : Int32) = (1 : Int32) by decide, show f11 (3 : Int32) (1 : Int32) = (3 : Int32) by decide]
theorem f9_32 (b n : Int32) : f9 b n (3 : Int32) (2 : Int32) = nar .boolean (f2 b n (2 : Int32) (3 : Int32)) := by unfold f9; rw [if_neg (by decide), show f10 (3 : Int32) (2 : Int32) = (2 : Int32) by decide, show f11 (3 : Int32) (2 : Int32) = (3 : Int32) by decide]
theorem f9_33 (b n : Int32) : f9 b n (3 : Int32) (3 : Int32) = 0 := by unfold f9; rw [if_pos rfl]
theorem f9_34 (b n : Int32) : f9 b n (3 : Int32) (4 : Int32) = nar .boolean (f2 b n (3 : Int32) (4 : Int32)) := by unfold f9; rw [if_neg (by decide), show f10 (3 : Int32) (4 : Int32) = (3 : Int32) by decide, show f11 (3 : Int32) (4 : Int32) = (4 : Int32) by decide]
theorem f9_40 (b n : Int32) : f9 b n (4 : Int32) (0 : Int32) = nar .boolean (f2 b n (0 : Int32) (4 : Int32)) := by unfold f9; rw [if_neg (by decide), show f10 (4 : Int32) (0 : Int32) = (0 : Int32) by decide, show f11 (4 : Int32) (0 : Int32) = (4 : Int32) by decide]
theorem f9_41 (b n : Int32) : f9 b n (4 : Int32) (1 : Int32) = nar .boolean (f2 b n (1 : Int32) (4 : Int32)) := by unfold f9; rw [if_neg (by decide), show f10 (4 : Int32) (1 : Int32) = (1 : Int32) by decide, show f11 (4 : Int32) (1 : Int32) = (4 : Int32) by decide]
theorem f9_42 (b n : Int32) : f9 b n (4 : Int32) (2 : Int32) = nar .boolean (f2 b n (2 : Int32) (4 : Int32)) := by unfold f9; rw [if_neg (by decide), show f10 (4 : Int32) (2 : Int32) = (2 : Int32) by decide, show f11 (4 : Int32) (2 : Int32) = (4 : Int32) by decide]
theorem f9_43 (b n : Int32) : f9 b n (4 : Int32) (3 : Int32) = nar .boolean (f2 b n (3 : Int32) (4 : Int32)) := by unfold f9; rw [if_neg (by decide), show f10 (4 : Int32) (3 : Int32) = (3 : Int32) by decide, show f11 (4 : Int32) (3 : Int32) = (4 : Int32) by decide]
theorem f9_44 (b n : Int32) : f9 b n (4 : Int32) (4 : Int32) = 0 := by unfold f9; rw [if_pos rfl]
theorem own_E_0 {bits n : Int32} (hn : n = (0 : Int32)) : ∀ p ∈ EE bits n, False := by
  subst hn
  intro p hp
  unfold EE at hp
  rcases memP hp with hp | h
  case inr => exact absurd (f2z (by decide)) h.1
  rcases memP hp with hp | h
  case inr => exact absurd (f2z (by decide)) h.1
  rcases memP hp with hp | h
  case inr => exact absurd (f2z (by decide)) h.1
  rcases memP hp with hp | h
  case inr => exact absurd (f2z (by decide)) h.1
  rcases memP hp with hp | h
  case inr => exact absurd (f2z (by decide)) h.1
  rcases memP hp with hp | h
  case inr => exact absurd (f2z (by decide)) h.1
  rcases memP hp with hp | h
  case inr => exact absurd (f2z (by decide)) h.1
  rcases memP hp with hp | h
  case inr => exact absurd (f2z (by decide)) h.1
  rcases memP hp with hp | h
  case inr => exact absurd (f2z (by decide)) h.1
  rcases memP hp with hp | h
  case inr => exact absurd (f2z (by decide)) h.1
  cases hp
theorem own_E_1 {bits n : Int32} (hn : n = (1 : Int32)) : ∀ p ∈ EE bits n, False := by
  subst hn
  intro p hp
  unfold EE at hp
  rcases memP hp with hp | h
  case inr => exact absurd (f2z (by decide)) h.1
  rcases memP hp with hp | h
  case inr => exact absurd (f2z (by decide)) h.1
  rcases memP hp with hp | h
  case inr => exact absurd (f2z (by decide)) h.1
  rcases memP hp with hp | h
  case inr => exact absurd (f2z (by decide)) h.1
  rcases memP hp with hp | h
  case inr => exact absurd (f2z (by decide)) h.1
  rcases memP hp with hp | h
  case inr => exact absurd (f2z (by decide)) h.1
  rcases memP hp with hp | h
  case inr => exact absurd (f2z (by decide)) h.1
  rcases memP hp with hp | h
  case inr => exact absurd (f2z (by decide)) h.1
  rcases memP hp with hp | h
  case inr => exact absurd (f2z (by decide)) h.1
  rcases memP hp with hp | h
  case inr => exact absurd (f2z (by decide)) h.1
  cases hp
theorem own_row_1_0 {bits n : Int32} (hn : n = (1 : Int32)) (h : (f5 bits (1 : Int32) (0 : Int32) (nb (EE bits n) 0)) = (0 : Int32)) : False := by
  subst hn
  revert h
  have e : nb (EE bits (1 : Int32)) 0 = nb [] 0 := by
    unfold EE
    simp only [nbP, nb_nil, if_true, List.append_nil, f2z (bits := bits) (n := (1 : Int32)) (a := (0 : Int32)) (b := (1 : Int32)) (by decide), f2z (bits := bits) (n := (1 : Int32)) (a := (0 : Int32)) (b := (2 : Int32)) (by decide), f2z (bits := bits) (n := (1 : Int32)) (a := (0 : Int32)) (b := (3 : Int32)) (by decide), f2z (bits := bits) (n := (1 : Int32)) (a := (0 : Int32)) (b := (4 : Int32)) (by decide), nb3 (a := 1) (b := 2) (i := 0) (by decide) (by decide), nb3 (a := 1) (b := 3) (i := 0) (by decide) (by decide), nb3 (a := 1) (b := 4) (i := 0) (by decide) (by decide), nb3 (a := 2) (b := 3) (i := 0) (by decide) (by decide), nb3 (a := 2) (b := 4) (i := 0) (by decide) (by decide), nb3 (a := 3) (b := 4) (i := 0) (by decide) (by decide), ite_self]
  rw [e]
  unfold f5
  simp only [f9_00, f9_01, f9_02, f9_03, f9_04]
  simp only [f2z (bits := bits) (n := (1 : Int32)) (a := (0 : Int32)) (b := (1 : Int32)) (by decide), f2z (bits := bits) (n := (1 : Int32)) (a := (0 : Int32)) (b := (2 : Int32)) (by decide), f2z (bits := bits) (n := (1 : Int32)) (a := (0 : Int32)) (b := (3 : Int32)) (by decide), f2z (bits := bits) (n := (1 : Int32)) (a := (0 : Int32)) (b := (4 : Int32)) (by decide)]
  decide +kernel
theorem own_E_2 {bits n : Int32} (hn : n = (2 : Int32)) : ∀ p ∈ EE bits n, p = (0, 1) := by
  subst hn
  intro p hp
  unfold EE at hp
  rcases memP hp with hp | h
  case inr => exact absurd (f2z (by decide)) h.1
  rcases memP hp with hp | h
  case inr => exact absurd (f2z (by decide)) h.1
  rcases memP hp with hp | h
  case inr => exact absurd (f2z (by decide)) h.1
  rcases memP hp with hp | h
  case inr => exact absurd (f2z (by decide)) h.1
  rcases memP hp with hp | h
  case inr => exact absurd (f2z (by decide)) h.1
  rcases memP hp with hp | h
  case inr => exact absurd (f2z (by decide)) h.1
  rcases memP hp with hp | h
  case inr => exact absurd (f2z (by decide)) h.1
  rcases memP hp with hp | h
  case inr => exact absurd (f2z (by decide)) h.1
  rcases memP hp with hp | h
  case inr => exact absurd (f2z (by decide)) h.1
  rcases memP hp with hp | h
  case inr => exact h.2
  cases hp
theorem own_row_2_0 {bits n : Int32} (hn : n = (2 : Int32)) (h : (f5 bits (2 : Int32) (0 : Int32) (nb (EE bits n) 0)) = (0 : Int32)) : False := by
  subst hn
  revert h
  have e : nb (EE bits (2 : Int32)) 0 = nb (putE (f2 bits (2 : Int32) (0 : Int32) (1 : Int32)) (0, 1) []) 0 := by
    unfold EE
    simp only [nbP, nb_nil, if_true, List.append_nil, f2z (bits := bits) (n := (2 : Int32)) (a := (0 : Int32)) (b := (2 : Int32)) (by decide), f2z (bits := bits) (n := (2 : Int32)) (a := (0 : Int32)) (b := (3 : Int32)) (by decide), f2z (bits := bits) (n := (2 : Int32)) (a := (0 : Int32)) (b := (4 : Int32)) (by decide), nb3 (a := 1) (b := 2) (i := 0) (by decide) (by decide), nb3 (a := 1) (b := 3) (i := 0) (by decide) (by decide), nb3 (a := 1) (b := 4) (i := 0) (by decide) (by decide), nb3 (a := 2) (b := 3) (i := 0) (by decide) (by decide), nb3 (a := 2) (b := 4) (i := 0) (by decide) (by decide), nb3 (a := 3) (b := 4) (i := 0) (by decide) (by decide), ite_self]
  rw [e]
  unfold f5
  simp only [f9_00, f9_01, f9_02, f9_03, f9_04]
  simp only [f2z (bits := bits) (n := (2 : Int32)) (a := (0 : Int32)) (b := (2 : Int32)) (by decide), f2z (bits := bits) (n := (2 : Int32)) (a := (0 : Int32)) (b := (3 : Int32)) (by decide), f2z (bits := bits) (n := (2 : Int32)) (a := (0 : Int32)) (b := (4 : Int32)) (by decide)]
  have c01 := f2_01 bits (2 : Int32) (0 : Int32) (1 : Int32)
  generalize (f2 bits (2 : Int32) (0 : Int32) (1 : Int32)) = x01 at *
  rcases c01 with rfl | rfl <;> decide +kernel
theorem own_row_2_1 {bits n : Int32} (hn : n = (2 : Int32)) (h : (f5 bits (2 : Int32) (1 : Int32) (nb (EE bits n) 1)) = (0 : Int32)) : False := by
  subst hn
  revert h
  have e : nb (EE bits (2 : Int32)) 1 = nb (putE (f2 bits (2 : Int32) (0 : Int32) (1 : Int32)) (0, 1) []) 1 := by
    unfold EE
    simp only [nbP, nb_nil, if_true, List.append_nil, f2z (bits := bits) (n := (2 : Int32)) (a := (1 : Int32)) (b := (2 : Int32)) (by decide), f2z (bits := bits) (n := (2 : Int32)) (a := (1 : Int32)) (b := (3 : Int32)) (by decide), f2z (bits := bits) (n := (2 : Int32)) (a := (1 : Int32)) (b := (4 : Int32)) (by decide), nb3 (a := 0) (b := 2) (i := 1) (by decide) (by decide), nb3 (a := 0) (b := 3) (i := 1) (by decide) (by decide), nb3 (a := 0) (b := 4) (i := 1) (by decide) (by decide), nb3 (a := 2) (b := 3) (i := 1) (by decide) (by decide), nb3 (a := 2) (b := 4) (i := 1) (by decide) (by decide), nb3 (a := 3) (b := 4) (i := 1) (by decide) (by decide), ite_self]
  rw [e]
  unfold f5
  simp only [f9_10, f9_11, f9_12, f9_13, f9_14]
  simp only [f2z (bits := bits) (n := (2 : Int32)) (a := (1 : Int32)) (b := (2 : Int32)) (by decide), f2z (bits := bits) (n := (2 : Int32)) (a := (1 : Int32)) (b := (3 : Int32)) (by decide), f2z (bits := bits) (n := (2 : Int32)) (a := (1 : Int32)) (b := (4 : Int32)) (by decide)]
  have c01 := f2_01 bits (2 : Int32) (0 : Int32) (1 : Int32)
  generalize (f2 bits (2 : Int32) (0 : Int32) (1 : Int32)) = x01 at *
  rcases c01 with rfl | rfl <;> decide +kernel
theorem own_E_3 {bits n : Int32} (hn : n = (3 : Int32)) : ∀ p ∈ EE bits n, p = (0, 1) ∨ p = (0, 2) ∨ p = (1, 2) := by
  subst hn
  intro p hp
  unfold EE at hp
  rcases memP hp with hp | h
  case inr => exact absurd (f2z (by decide)) h.1
  rcases memP hp with hp | h
  case inr => exact absurd (f2z (by decide)) h.1
  rcases memP hp with hp | h
  case inr => exact absurd (f2z (by decide)) h.1
  rcases memP hp with hp | h
  case inr => exact absurd (f2z (by decide)) h.1
  rcases memP hp with hp | h
  case inr => exact absurd (f2z (by decide)) h.1
  rcases memP hp with hp | h
  case inr => rw [h.2]; simp
  rcases memP hp with hp | h
  case inr => exact absurd (f2z (by decide)) h.1
  rcases memP hp with hp | h
  case inr => exact absurd (f2z (by decide)) h.1
  rcases memP hp with hp | h
  case inr => rw [h.2]; simp
  rcases memP hp with hp | h
  case inr => rw [h.2]; simp
  cases hp
theorem own_row_3_0 {bits n : Int32} (hn : n = (3 : Int32)) (h : (f5 bits (3 : Int32) (0 : Int32) (nb (EE bits n) 0)) = (0 : Int32)) : False := by
  subst hn
  revert h
  have e : nb (EE bits (3 : Int32)) 0 = nb (putE (f2 bits (3 : Int32) (0 : Int32) (2 : Int32)) (0, 2) (putE (f2 bits (3 : Int32) (0 : Int32) (1 : Int32)) (0, 1) [])) 0 := by
    unfold EE
    simp only [nbP, nb_nil, if_true, List.append_nil, f2z (bits := bits) (n := (3 : Int32)) (a := (0 : Int32)) (b := (3 : Int32)) (by decide), f2z (bits := bits) (n := (3 : Int32)) (a := (0 : Int32)) (b := (4 : Int32)) (by decide), nb3 (a := 1) (b := 2) (i := 0) (by decide) (by decide), nb3 (a := 1) (b := 3) (i := 0) (by decide) (by decide), nb3 (a := 1) (b := 4) (i := 0) (by decide) (by decide), nb3 (a := 2) (b := 3) (i := 0) (by decide) (by decide), nb3 (a := 2) (b := 4) (i := 0) (by decide) (by decide), nb3 (a := 3) (b := 4) (i := 0) (by decide) (by decide), ite_self]
  rw [e]
  unfold f5
  simp only [f9_00, f9_01, f9_02, f9_03, f9_04]
  simp only [f2z (bits := bits) (n := (3 : Int32)) (a := (0 : Int32)) (b := (3 : Int32)) (by decide), f2z (bits := bits) (n := (3 : Int32)) (a := (0 : Int32)) (b := (4 : Int32)) (by decide)]
  have c01 := f2_01 bits (3 : Int32) (0 : Int32) (1 : Int32)
  have c02 := f2_01 bits (3 : Int32) (0 : Int32) (2 : Int32)
  generalize (f2 bits (3 : Int32) (0 : Int32) (1 : Int32)) = x01 at *
  generalize (f2 bits (3 : Int32) (0 : Int32) (2 : Int32)) = x02 at *
  rcases c01 with rfl | rfl <;> rcases c02 with rfl | rfl <;> decide +kernel
theorem own_row_3_1 {bits n : Int32} (hn : n = (3 : Int32)) (h : (f5 bits (3 : Int32) (1 : Int32) (nb (EE bits n) 1)) = (0 : Int32)) : False := by
  subst hn
  revert h
  have e : nb (EE bits (3 : Int32)) 1 = nb (putE (f2 bits (3 : Int32) (1 : Int32) (2 : Int32)) (1, 2) (putE (f2 bits (3 : Int32) (0 : Int32) (1 : Int32)) (0, 1) [])) 1 := by
    unfold EE
    simp only [nbP, nb_nil, if_true, List.append_nil, f2z (bits := bits) (n := (3 : Int32)) (a := (1 : Int32)) (b := (3 : Int32)) (by decide), f2z (bits := bits) (n := (3 : Int32)) (a := (1 : Int32)) (b := (4 : Int32)) (by decide), nb3 (a := 0) (b := 2) (i := 1) (by decide) (by decide), nb3 (a := 0) (b := 3) (i := 1) (by decide) (by decide), nb3 (a := 0) (b := 4) (i := 1) (by decide) (by decide), nb3 (a := 2) (b := 3) (i := 1) (by decide) (by decide), nb3 (a := 2) (b := 4) (i := 1) (by decide) (by decide), nb3 (a := 3) (b := 4) (i := 1) (by decide) (by decide), ite_self]
  rw [e]
  unfold f5
  simp only [f9_10, f9_11, f9_12, f9_13, f9_14]
  simp only [f2z (bits := bits) (n := (3 : Int32)) (a := (1 : Int32)) (b := (3 : Int32)) (by decide), f2z (bits := bits) (n := (3 : Int32)) (a := (1 : Int32)) (b := (4 : Int32)) (by decide)]
  have c01 := f2_01 bits (3 : Int32) (0 : Int32) (1 : Int32)
  have c12 := f2_01 bits (3 : Int32) (1 : Int32) (2 : Int32)
  generalize (f2 bits (3 : Int32) (0 : Int32) (1 : Int32)) = x01 at *
  generalize (f2 bits (3 : Int32) (1 : Int32) (2 : Int32)) = x12 at *
  rcases c01 with rfl | rfl <;> rcases c12 with rfl | rfl <;> decide +kernel
theorem own_row_3_2 {bits n : Int32} (hn : n = (3 : Int32)) (h : (f5 bits (3 : Int32) (2 : Int32) (nb (EE bits n) 2)) = (0 : Int32)) : False := by
  subst hn
  revert h
  have e : nb (EE bits (3 : Int32)) 2 = nb (putE (f2 bits (3 : Int32) (1 : Int32) (2 : Int32)) (1, 2) (putE (f2 bits (3 : Int32) (0 : Int32) (2 : Int32)) (0, 2) [])) 2 := by
    unfold EE
    simp only [nbP, nb_nil, if_true, List.append_nil, f2z (bits := bits) (n := (3 : Int32)) (a := (2 : Int32)) (b := (3 : Int32)) (by decide), f2z (bits := bits) (n := (3 : Int32)) (a := (2 : Int32)) (b := (4 : Int32)) (by decide), nb3 (a := 0) (b := 1) (i := 2) (by decide) (by decide), nb3 (a := 0) (b := 3) (i := 2) (by decide) (by decide), nb3 (a := 0) (b := 4) (i := 2) (by decide) (by decide), nb3 (a := 1) (b := 3) (i := 2) (by decide) (by decide), nb3 (a := 1) (b := 4) (i := 2) (by decide) (by decide), nb3 (a := 3) (b := 4) (i := 2) (by decide) (by decide), ite_self]
  rw [e]
  unfold f5
  simp only [f9_20, f9_21, f9_22, f9_23, f9_24]
  simp only [f2z (bits := bits) (n := (3 : Int32)) (a := (2 : Int32)) (b := (3 : Int32)) (by decide), f2z (bits := bits) (n := (3 : Int32)) (a := (2 : Int32)) (b := (4 : Int32)) (by decide)]
  have c02 := f2_01 bits (3 : Int32) (0 : Int32) (2 : Int32)
  have c12 := f2_01 bits (3 : Int32) (1 : Int32) (2 : Int32)
  generalize (f2 bits (3 : Int32) (0 : Int32) (2 : Int32)) = x02 at *
  generalize (f2 bits (3 : Int32) (1 : Int32) (2 : Int32)) = x12 at *
  rcases c02 with rfl | rfl <;> rcases c12 with rfl | rfl <;> decide +kernel
theorem own_E_4 {bits n : Int32} (hn : n = (4 : Int32)) : ∀ p ∈ EE bits n, p = (0, 1) ∨ p = (0, 2) ∨ p = (0, 3) ∨ p = (1, 2) ∨ p = (1, 3) ∨ p = (2, 3) := by
  subst hn
  intro p hp
  unfold EE at hp
  rcases memP hp with hp | h
  case inr => exact absurd (f2z (by decide)) h.1
  rcases memP hp with hp | h
  case inr => exact absurd (f2z (by decide)) h.1
  rcases memP hp with hp | h
  case inr => rw [h.2]; simp
  rcases memP hp with hp | h
  case inr => exact absurd (f2z (by decide)) h.1
  rcases memP hp with hp | h
  case inr => rw [h.2]; simp
  rcases memP hp with hp | h
  case inr => rw [h.2]; simp
  rcases memP hp with hp | h
  case inr => exact absurd (f2z (by decide)) h.1
  rcases memP hp with hp | h
  case inr => rw [h.2]; simp
  rcases memP hp with hp | h
  case inr => rw [h.2]; simp
  rcases memP hp with hp | h
  case inr => rw [h.2]; simp
  cases hp
theorem own_row_4_0 {bits n : Int32} (hn : n = (4 : Int32)) (h : (f5 bits (4 : Int32) (0 : Int32) (nb (EE bits n) 0)) = (0 : Int32)) : False := by
  subst hn
  revert h
  have e : nb (EE bits (4 : Int32)) 0 = nb (putE (f2 bits (4 : Int32) (0 : Int32) (3 : Int32)) (0, 3) (putE (f2 bits (4 : Int32) (0 : Int32) (2 : Int32)) (0, 2) (putE (f2 bits (4 : Int32) (0 : Int32) (1 : Int32)) (0, 1) []))) 0 := by
    unfold EE
    simp only [nbP, nb_nil, if_true, List.append_nil, f2z (bits := bits) (n := (4 : Int32)) (a := (0 : Int32)) (b := (4 : Int32)) (by decide), nb3 (a := 1) (b := 2) (i := 0) (by decide) (by decide), nb3 (a := 1) (b := 3) (i := 0) (by decide) (by decide), nb3 (a := 1) (b := 4) (i := 0) (by decide) (by decide), nb3 (a := 2) (b := 3) (i := 0) (by decide) (by decide), nb3 (a := 2) (b := 4) (i := 0) (by decide) (by decide), nb3 (a := 3) (b := 4) (i := 0) (by decide) (by decide), ite_self]
  rw [e]
  unfold f5
  simp only [f9_00, f9_01, f9_02, f9_03, f9_04]
  simp only [f2z (bits := bits) (n := (4 : Int32)) (a := (0 : Int32)) (b := (4 : Int32)) (by decide)]
  have c01 := f2_01 bits (4 : Int32) (0 : Int32) (1 : Int32)
  have c02 := f2_01 bits (4 : Int32) (0 : Int32) (2 : Int32)
  have c03 := f2_01 bits (4 : Int32) (0 : Int32) (3 : Int32)
  generalize (f2 bits (4 : Int32) (0 : Int32) (1 : Int32)) = x01 at *
  generalize (f2 bits (4 : Int32) (0 : Int32) (2 : Int32)) = x02 at *
  generalize (f2 bits (4 : Int32) (0 : Int32) (3 : Int32)) = x03 at *
  rcases c01 with rfl | rfl <;> rcases c02 with rfl | rfl <;> rcases c03 with rfl | rfl <;> decide +kernel
theorem own_row_4_1 {bits n : Int32} (hn : n = (4 : Int32)) (h : (f5 bits (4 : Int32) (1 : Int32) (nb (EE bits n) 1)) = (0 : Int32)) : False := by
  subst hn
  revert h
  have e : nb (EE bits (4 : Int32)) 1 = nb (putE (f2 bits (4 : Int32) (1 : Int32) (3 : Int32)) (1, 3) (putE (f2 bits (4 : Int32) (1 : Int32) (2 : Int32)) (1, 2) (putE (f2 bits (4 : Int32) (0 : Int32) (1 : Int32)) (0, 1) []))) 1 := by
    unfold EE
    simp only [nbP, nb_nil, if_true, List.append_nil, f2z (bits := bits) (n := (4 : Int32)) (a := (1 : Int32)) (b := (4 : Int32)) (by decide), nb3 (a := 0) (b := 2) (i := 1) (by decide) (by decide), nb3 (a := 0) (b := 3) (i := 1) (by decide) (by decide), nb3 (a := 0) (b := 4) (i := 1) (by decide) (by decide), nb3 (a := 2) (b := 3) (i := 1) (by decide) (by decide), nb3 (a := 2) (b := 4) (i := 1) (by decide) (by decide), nb3 (a := 3) (b := 4) (i := 1) (by decide) (by decide), ite_self]
  rw [e]
  unfold f5
  simp only [f9_10, f9_11, f9_12, f9_13, f9_14]
  simp only [f2z (bits := bits) (n := (4 : Int32)) (a := (1 : Int32)) (b := (4 : Int32)) (by decide)]
  have c01 := f2_01 bits (4 : Int32) (0 : Int32) (1 : Int32)
  have c12 := f2_01 bits (4 : Int32) (1 : Int32) (2 : Int32)
  have c13 := f2_01 bits (4 : Int32) (1 : Int32) (3 : Int32)
  generalize (f2 bits (4 : Int32) (0 : Int32) (1 : Int32)) = x01 at *
  generalize (f2 bits (4 : Int32) (1 : Int32) (2 : Int32)) = x12 at *
  generalize (f2 bits (4 : Int32) (1 : Int32) (3 : Int32)) = x13 at *
  rcases c01 with rfl | rfl <;> rcases c12 with rfl | rfl <;> rcases c13 with rfl | rfl <;> decide +kernel
theorem own_row_4_2 {bits n : Int32} (hn : n = (4 : Int32)) (h : (f5 bits (4 : Int32) (2 : Int32) (nb (EE bits n) 2)) = (0 : Int32)) : False := by
  subst hn
  revert h
  have e : nb (EE bits (4 : Int32)) 2 = nb (putE (f2 bits (4 : Int32) (2 : Int32) (3 : Int32)) (2, 3) (putE (f2 bits (4 : Int32) (1 : Int32) (2 : Int32)) (1, 2) (putE (f2 bits (4 : Int32) (0 : Int32) (2 : Int32)) (0, 2) []))) 2 := by
    unfold EE
    simp only [nbP, nb_nil, if_true, List.append_nil, f2z (bits := bits) (n := (4 : Int32)) (a := (2 : Int32)) (b := (4 : Int32)) (by decide), nb3 (a := 0) (b := 1) (i := 2) (by decide) (by decide), nb3 (a := 0) (b := 3) (i := 2) (by decide) (by decide), nb3 (a := 0) (b := 4) (i := 2) (by decide) (by decide), nb3 (a := 1) (b := 3) (i := 2) (by decide) (by decide), nb3 (a := 1) (b := 4) (i := 2) (by decide) (by decide), nb3 (a := 3) (b := 4) (i := 2) (by decide) (by decide), ite_self]
  rw [e]
  unfold f5
  simp only [f9_20, f9_21, f9_22, f9_23, f9_24]
  simp only [f2z (bits := bits) (n := (4 : Int32)) (a := (2 : Int32)) (b := (4 : Int32)) (by decide)]
  have c02 := f2_01 bits (4 : Int32) (0 : Int32) (2 : Int32)
  have c12 := f2_01 bits (4 : Int32) (1 : Int32) (2 : Int32)
  have c23 := f2_01 bits (4 : Int32) (2 : Int32) (3 : Int32)
  generalize (f2 bits (4 : Int32) (0 : Int32) (2 : Int32)) = x02 at *
  generalize (f2 bits (4 : Int32) (1 : Int32) (2 : Int32)) = x12 at *
  generalize (f2 bits (4 : Int32) (2 : Int32) (3 : Int32)) = x23 at *
  rcases c02 with rfl | rfl <;> rcases c12 with rfl | rfl <;> rcases c23 with rfl | rfl <;> decide +kernel
theorem own_row_4_3 {bits n : Int32} (hn : n = (4 : Int32)) (h : (f5 bits (4 : Int32) (3 : Int32) (nb (EE bits n) 3)) = (0 : Int32)) : False := by
  subst hn
  revert h
  have e : nb (EE bits (4 : Int32)) 3 = nb (putE (f2 bits (4 : Int32) (2 : Int32) (3 : Int32)) (2, 3) (putE (f2 bits (4 : Int32) (1 : Int32) (3 : Int32)) (1, 3) (putE (f2 bits (4 : Int32) (0 : Int32) (3 : Int32)) (0, 3) []))) 3 := by
    unfold EE
    simp only [nbP, nb_nil, if_true, List.append_nil, f2z (bits := bits) (n := (4 : Int32)) (a := (3 : Int32)) (b := (4 : Int32)) (by decide), nb3 (a := 0) (b := 1) (i := 3) (by decide) (by decide), nb3 (a := 0) (b := 2) (i := 3) (by decide) (by decide), nb3 (a := 0) (b := 4) (i := 3) (by decide) (by decide), nb3 (a := 1) (b := 2) (i := 3) (by decide) (by decide), nb3 (a := 1) (b := 4) (i := 3) (by decide) (by decide), nb3 (a := 2) (b := 4) (i := 3) (by decide) (by decide), ite_self]
  rw [e]
  unfold f5
  simp only [f9_30, f9_31, f9_32, f9_33, f9_34]
  simp only [f2z (bits := bits) (n := (4 : Int32)) (a := (3 : Int32)) (b := (4 : Int32)) (by decide)]
  have c03 := f2_01 bits (4 : Int32) (0 : Int32) (3 : Int32)
  have c13 := f2_01 bits (4 : Int32) (1 : Int32) (3 : Int32)
  have c23 := f2_01 bits (4 : Int32) (2 : Int32) (3 : Int32)
  generalize (f2 bits (4 : Int32) (0 : Int32) (3 : Int32)) = x03 at *
  generalize (f2 bits (4 : Int32) (1 : Int32) (3 : Int32)) = x13 at *
  generalize (f2 bits (4 : Int32) (2 : Int32) (3 : Int32)) = x23 at *
  rcases c03 with rfl | rfl <;> rcases c13 with rfl | rfl <;> rcases c23 with rfl | rfl <;> decide +kernel
theorem own_E_5 {bits n : Int32} (hn : n = (5 : Int32)) : ∀ p ∈ EE bits n, p = (0, 1) ∨ p = (0, 2) ∨ p = (0, 3) ∨ p = (0, 4) ∨ p = (1, 2) ∨ p = (1, 3) ∨ p = (1, 4) ∨ p = (2, 3) ∨ p = (2, 4) ∨ p = (3, 4) := by
  subst hn
  intro p hp
  unfold EE at hp
  rcases memP hp with hp | h
  case inr => rw [h.2]; simp
  rcases memP hp with hp | h
  case inr => rw [h.2]; simp
  rcases memP hp with hp | h
  case inr => rw [h.2]; simp
  rcases memP hp with hp | h
  case inr => rw [h.2]; simp
  rcases memP hp with hp | h
  case inr => rw [h.2]; simp
  rcases memP hp with hp | h
  case inr => rw [h.2]; simp
  rcases memP hp with hp | h
  case inr => rw [h.2]; simp
  rcases memP hp with hp | h
  case inr => rw [h.2]; simp
  rcases memP hp with hp | h
  case inr => rw [h.2]; simp
  rcases memP hp with hp | h
  case inr => rw [h.2]; simp
  cases hp
theorem own_row_5_0 {bits n : Int32} (hn : n = (5 : Int32)) (h : (f5 bits (5 : Int32) (0 : Int32) (nb (EE bits n) 0)) = (0 : Int32)) : False := by
  subst hn
  revert h
  have e : nb (EE bits (5 : Int32)) 0 = nb (putE (f2 bits (5 : Int32) (0 : Int32) (4 : Int32)) (0, 4) (putE (f2 bits (5 : Int32) (0 : Int32) (3 : Int32)) (0, 3) (putE (f2 bits (5 : Int32) (0 : Int32) (2 : Int32)) (0, 2) (putE (f2 bits (5 : Int32) (0 : Int32) (1 : Int32)) (0, 1) [])))) 0 := by
    unfold EE
    simp only [nbP, nb_nil, if_true, List.append_nil, nb3 (a := 1) (b := 2) (i := 0) (by decide) (by decide), nb3 (a := 1) (b := 3) (i := 0) (by decide) (by decide), nb3 (a := 1) (b := 4) (i := 0) (by decide) (by decide), nb3 (a := 2) (b := 3) (i := 0) (by decide) (by decide), nb3 (a := 2) (b := 4) (i := 0) (by decide) (by decide), nb3 (a := 3) (b := 4) (i := 0) (by decide) (by decide), ite_self]
  rw [e]
  unfold f5
  simp only [f9_00, f9_01, f9_02, f9_03, f9_04]
  have c01 := f2_01 bits (5 : Int32) (0 : Int32) (1 : Int32)
  have c02 := f2_01 bits (5 : Int32) (0 : Int32) (2 : Int32)
  have c03 := f2_01 bits (5 : Int32) (0 : Int32) (3 : Int32)
  have c04 := f2_01 bits (5 : Int32) (0 : Int32) (4 : Int32)
  generalize (f2 bits (5 : Int32) (0 : Int32) (1 : Int32)) = x01 at *
  generalize (f2 bits (5 : Int32) (0 : Int32) (2 : Int32)) = x02 at *
  generalize (f2 bits (5 : Int32) (0 : Int32) (3 : Int32)) = x03 at *
  generalize (f2 bits (5 : Int32) (0 : Int32) (4 : Int32)) = x04 at *
  rcases c01 with rfl | rfl <;> rcases c02 with rfl | rfl <;> rcases c03 with rfl | rfl <;> rcases c04 with rfl | rfl <;> decide +kernel
theorem own_row_5_1 {bits n : Int32} (hn : n = (5 : Int32)) (h : (f5 bits (5 : Int32) (1 : Int32) (nb (EE bits n) 1)) = (0 : Int32)) : False := by
  subst hn
  revert h
  have e : nb (EE bits (5 : Int32)) 1 = nb (putE (f2 bits (5 : Int32) (1 : Int32) (4 : Int32)) (1, 4) (putE (f2 bits (5 : Int32) (1 : Int32) (3 : Int32)) (1, 3) (putE (f2 bits (5 : Int32) (1 : Int32) (2 : Int32)) (1, 2) (putE (f2 bits (5 : Int32) (0 : Int32) (1 : Int32)) (0, 1) [])))) 1 := by
    unfold EE
    simp only [nbP, nb_nil, if_true, List.append_nil, nb3 (a := 0) (b := 2) (i := 1) (by decide) (by decide), nb3 (a := 0) (b := 3) (i := 1) (by decide) (by decide), nb3 (a := 0) (b := 4) (i := 1) (by decide) (by decide), nb3 (a := 2) (b := 3) (i := 1) (by decide) (by decide), nb3 (a := 2) (b := 4) (i := 1) (by decide) (by decide), nb3 (a := 3) (b := 4) (i := 1) (by decide) (by decide), ite_self]
  rw [e]
  unfold f5
  simp only [f9_10, f9_11, f9_12, f9_13, f9_14]
  have c01 := f2_01 bits (5 : Int32) (0 : Int32) (1 : Int32)
  have c12 := f2_01 bits (5 : Int32) (1 : Int32) (2 : Int32)
  have c13 := f2_01 bits (5 : Int32) (1 : Int32) (3 : Int32)
  have c14 := f2_01 bits (5 : Int32) (1 : Int32) (4 : Int32)
  generalize (f2 bits (5 : Int32) (0 : Int32) (1 : Int32)) = x01 at *
  generalize (f2 bits (5 : Int32) (1 : Int32) (2 : Int32)) = x12 at *
  generalize (f2 bits (5 : Int32) (1 : Int32) (3 : Int32)) = x13 at *
  generalize (f2 bits (5 : Int32) (1 : Int32) (4 : Int32)) = x14 at *
  rcases c01 with rfl | rfl <;> rcases c12 with rfl | rfl <;> rcases c13 with rfl | rfl <;> rcases c14 with rfl | rfl <;> decide +kernel
theorem own_row_5_2 {bits n : Int32} (hn : n = (5 : Int32)) (h : (f5 bits (5 : Int32) (2 : Int32) (nb (EE bits n) 2)) = (0 : Int32)) : False := by
  subst hn
  revert h
  have e : nb (EE bits (5 : Int32)) 2 = nb (putE (f2 bits (5 : Int32) (2 : Int32) (4 : Int32)) (2, 4) (putE (f2 bits (5 : Int32) (2 : Int32) (3 : Int32)) (2, 3) (putE (f2 bits (5 : Int32) (1 : Int32) (2 : Int32)) (1, 2) (putE (f2 bits (5 : Int32) (0 : Int32) (2 : Int32)) (0, 2) [])))) 2 := by
    unfold EE
    simp only [nbP, nb_nil, if_true, List.append_nil, nb3 (a := 0) (b := 1) (i := 2) (by decide) (by decide), nb3 (a := 0) (b := 3) (i := 2) (by decide) (by decide), nb3 (a := 0) (b := 4) (i := 2) (by decide) (by decide), nb3 (a := 1) (b := 3) (i := 2) (by decide) (by decide), nb3 (a := 1) (b := 4) (i := 2) (by decide) (by decide), nb3 (a := 3) (b := 4) (i := 2) (by decide) (by decide), ite_self]
  rw [e]
  unfold f5
  simp only [f9_20, f9_21, f9_22, f9_23, f9_24]
  have c02 := f2_01 bits (5 : Int32) (0 : Int32) (2 : Int32)
  have c12 := f2_01 bits (5 : Int32) (1 : Int32) (2 : Int32)
  have c23 := f2_01 bits (5 : Int32) (2 : Int32) (3 : Int32)
  have c24 := f2_01 bits (5 : Int32) (2 : Int32) (4 : Int32)
  generalize (f2 bits (5 : Int32) (0 : Int32) (2 : Int32)) = x02 at *
  generalize (f2 bits (5 : Int32) (1 : Int32) (2 : Int32)) = x12 at *
  generalize (f2 bits (5 : Int32) (2 : Int32) (3 : Int32)) = x23 at *
  generalize (f2 bits (5 : Int32) (2 : Int32) (4 : Int32)) = x24 at *
  rcases c02 with rfl | rfl <;> rcases c12 with rfl | rfl <;> rcases c23 with rfl | rfl <;> rcases c24 with rfl | rfl <;> decide +kernel
theorem own_row_5_3 {bits n : Int32} (hn : n = (5 : Int32)) (h : (f5 bits (5 : Int32) (3 : Int32) (nb (EE bits n) 3)) = (0 : Int32)) : False := by
  subst hn
  revert h
  have e : nb (EE bits (5 : Int32)) 3 = nb (putE (f2 bits (5 : Int32) (3 : Int32) (4 : Int32)) (3, 4) (putE (f2 bits (5 : Int32) (2 : Int32) (3 : Int32)) (2, 3) (putE (f2 bits (5 : Int32) (1 : Int32) (3 : Int32)) (1, 3) (putE (f2 bits (5 : Int32) (0 : Int32) (3 : Int32)) (0, 3) [])))) 3 := by
    unfold EE
    simp only [nbP, nb_nil, if_true, List.append_nil, nb3 (a := 0) (b := 1) (i := 3) (by decide) (by decide), nb3 (a := 0) (b := 2) (i := 3) (by decide) (by decide), nb3 (a := 0) (b := 4) (i := 3) (by decide) (by decide), nb3 (a := 1) (b := 2) (i := 3) (by decide) (by decide), nb3 (a := 1) (b := 4) (i := 3) (by decide) (by decide), nb3 (a := 2) (b := 4) (i := 3) (by decide) (by decide), ite_self]
  rw [e]
  unfold f5
  simp only [f9_30, f9_31, f9_32, f9_33, f9_34]
  have c03 := f2_01 bits (5 : Int32) (0 : Int32) (3 : Int32)
  have c13 := f2_01 bits (5 : Int32) (1 : Int32) (3 : Int32)
  have c23 := f2_01 bits (5 : Int32) (2 : Int32) (3 : Int32)
  have c34 := f2_01 bits (5 : Int32) (3 : Int32) (4 : Int32)
  generalize (f2 bits (5 : Int32) (0 : Int32) (3 : Int32)) = x03 at *
  generalize (f2 bits (5 : Int32) (1 : Int32) (3 : Int32)) = x13 at *
  generalize (f2 bits (5 : Int32) (2 : Int32) (3 : Int32)) = x23 at *
  generalize (f2 bits (5 : Int32) (3 : Int32) (4 : Int32)) = x34 at *
  rcases c03 with rfl | rfl <;> rcases c13 with rfl | rfl <;> rcases c23 with rfl | rfl <;> rcases c34 with rfl | rfl <;> decide +kernel
theorem own_row_5_4 {bits n : Int32} (hn : n = (5 : Int32)) (h : (f5 bits (5 : Int32) (4 : Int32) (nb (EE bits n) 4)) = (0 : Int32)) : False := by
  subst hn
  revert h
  have e : nb (EE bits (5 : Int32)) 4 = nb (putE (f2 bits (5 : Int32) (3 : Int32) (4 : Int32)) (3, 4) (putE (f2 bits (5 : Int32) (2 : Int32) (4 : Int32)) (2, 4) (putE (f2 bits (5 : Int32) (1 : Int32) (4 : Int32)) (1, 4) (putE (f2 bits (5 : Int32) (0 : Int32) (4 : Int32)) (0, 4) [])))) 4 := by
    unfold EE
    simp only [nbP, nb_nil, if_true, List.append_nil, nb3 (a := 0) (b := 1) (i := 4) (by decide) (by decide), nb3 (a := 0) (b := 2) (i := 4) (by decide) (by decide), nb3 (a := 0) (b := 3) (i := 4) (by decide) (by decide), nb3 (a := 1) (b := 2) (i := 4) (by decide) (by decide), nb3 (a := 1) (b := 3) (i := 4) (by decide) (by decide), nb3 (a := 2) (b := 3) (i := 4) (by decide) (by decide), ite_self]
  rw [e]
  unfold f5
  simp only [f9_40, f9_41, f9_42, f9_43, f9_44]
  have c04 := f2_01 bits (5 : Int32) (0 : Int32) (4 : Int32)
  have c14 := f2_01 bits (5 : Int32) (1 : Int32) (4 : Int32)
  have c24 := f2_01 bits (5 : Int32) (2 : Int32) (4 : Int32)
  have c34 := f2_01 bits (5 : Int32) (3 : Int32) (4 : Int32)
  generalize (f2 bits (5 : Int32) (0 : Int32) (4 : Int32)) = x04 at *
  generalize (f2 bits (5 : Int32) (1 : Int32) (4 : Int32)) = x14 at *
  generalize (f2 bits (5 : Int32) (2 : Int32) (4 : Int32)) = x24 at *
  generalize (f2 bits (5 : Int32) (3 : Int32) (4 : Int32)) = x34 at *
  rcases c04 with rfl | rfl <;> rcases c14 with rfl | rfl <;> rcases c24 with rfl | rfl <;> rcases c34 with rfl | rfl <;> decide +kernel
theorem pd_4 : parseMethodDescriptor "(IIII)I" = some ⟨[.int, .int, .int, .int], some .int⟩ := by decide +kernel
theorem pd_5 : parseMethodDescriptor "([JIIIII)I" = some ⟨[(.array .long), .int, .int, .int, .int, .int], some .int⟩ := by decide +kernel
theorem pd_6 : parseMethodDescriptor "(I[J)[[I" = some ⟨[.int, (.array .long)], some (.array (.array .int))⟩ := by decide +kernel
theorem pd_7 : parseMethodDescriptor "([[IIII)Z" = some ⟨[(.array (.array .int)), .int, .int, .int], some .boolean⟩ := by decide +kernel
theorem ef_0 (m : MethodId) (p1 : Int32) (p2 : Int32) : entryFrame m #[(.int p1), (.int p2)] maxLocals = mkF m 0 #[.val (.int p1), .val (.int p2), .unset, .unset, .unset, .unset, .unset] [] := by first | (simp [entryFrame, mkF, argsToLocals, Value.category, maxLocals]; done) | rfl
def f0 (p1 : Int32) (p2 : Int32) : Int32 := (1 : Int32)
set_option maxRecDepth 65536 in
set_option maxHeartbeats 40000000 in
theorem rm0 (l : Launch) (Z : State) (a0 : Array Value) (hw : ∀ d ∈ tables_1, d.before a0 Z = true) (ws : List Jvm.Cond) (p1 : Int32) (p2 : Int32) (h0 : Heap) (n0 : Nat) (Z0 : n0 ≤ h0.size) :
    MetFree l x (head1 (Jvm.Cond.code x code maxLocals ret :: ws) room_1) (fun a U => a = #[(.int p1), (.int p2)] ∧ Z.Warmed39 U.vm ∧ U.heap = h0) (fun _ _ _ _ _ => True) (fun _ U o U' => ∃ v L, o = .returned v ∧ QL (.int (f0 p1 p2)) n0 v U'.heap L ∧ FrameEnd U o U' L room_1.cells room_1.slots) := by
  refine MetFree.of_bodySF (plainFor_of_name pn_0) hisR ?_
  intro p e s m args below meth c s₁ Bd hml0 hP hK
  obtain ⟨rfl, hZ, hh⟩ := hP
  have hx := Bd.exec
  have hby := Bd.bytes
  have hml : c.maxLocals = 7 := hml0
  have hown : s.vm.findClass "com/example/hertzbid/hertzbid/ConflictPairsNeighboursPinLaw" = some m.cls := findClass_of_methodNamed Bd.named
  have hnm := (name_of_methodNamed Bd.named Bd.method).1
  have X0 : Stand p l e room_1 s m #[(.int p1), (.int p2)] below meth c s₁ [] 0 0 := Stand.of_body Bd
  have e0 : s₁.heap = h0 := by rw [← hh, Bd.state]; rfl
  have N0 := Fr.nil n0
  refine Go.done (Go.step (fun t k => castTop (ef_0 m p1 p2) k) ?_)
  have KK0 : Keep h0 h0 [] := Keep.refl _ _
  show Go p e below _ (s₁.setTop (mkF m 0 _ []))
  refine gI (q := 1) X0 hx (hb hby at_0) rfl rfl ?_
  refine Go.step (X0.ldcInt hx hown (mvT hZ (hw _ (List.mem_of_getElem? (i := 0) rfl))) (g := (mkF m 1 #[.val (.int p1), .val (.int p2), .unset, .unset, .unset, .unset, .unset] [(.int p1)])) rfl (hb hby at_1)) ?_
  show Go p e below _ (s₁.setTop (mkF m 3 _ [(.int (2147483647 : Int32)), (.int p1)]))
  refine Go.step (fun t k => XS.iand X0.here hx rfl (hb hby at_3) rfl k) ?_
  show Go p e below _ (s₁.setTop (mkF m 4 _ [(.int (p1 &&& (2147483647 : Int32)))]))
  refine Go.step (fun t k => XS.bipush X0.here hx rfl (hb hby at_4)  k) ?_
  show Go p e below _ (s₁.setTop (mkF m 6 _ [(.int (6 : Int32)), (.int (p1 &&& (2147483647 : Int32)))]))
  refine Go.step (fun t (k : Steps p.tables e below (s₁.setTop (mkF m 7 #[.val (.int p1), .val (.int p2), .unset, .unset, .unset, .unset, .unset] [(.int ((p1 &&& (2147483647 : Int32)) % (6 : Int32)))])) t) => XS.irem X0.here hx rfl (hb hby at_6) rfl (by decide) (by rw [remI]; exact k)) ?_
  show Go p e below _ (s₁.setTop (mkF m 7 _ [(.int ((p1 &&& (2147483647 : Int32)) % (6 : Int32)))]))
  refine nameIt (fun zz : Int32 => Go p e below _ (s₁.setTop (mkF m 7 #[.val (.int p1), .val (.int p2), .unset, .unset, .unset, .unset, .unset] [(.int zz)]))) ((p1 &&& (2147483647 : Int32)) % (6 : Int32)) ?_
  intro v3 hv3
  show Go p e below _ (s₁.setTop (mkF m 7 _ [(.int v3)]))
  refine Go.step (fun t k => XS.istoreN X0.here hx rfl (hb hby at_7) rfl (l' := #[.val (.int p1), .val (.int p2), .val (.int v3), .unset, .unset, .unset, .unset]) rfl k) ?_
  show Go p e below _ (s₁.setTop (mkF m 8 _ []))
  refine gI (q := 9) X0 hx (hb hby at_8) rfl rfl ?_
  refine gI (q := 10) X0 hx (hb hby at_9) rfl rfl ?_
  refine gC (q := 11) (v := 0) X0 hx (hb hby at_10) rfl rfl ?_
  refine gC (q := 12) (v := 1) X0 hx (hb hby at_11) rfl rfl ?_
  obtain ⟨_, _, ⟨T4, L4, k4, n4⟩, -, X4, ⟨Lc4, hQ4, l4, y4, z4⟩, st4⟩ := Jvm.LawKit.callS X0 hx (y := (⟨"com/example/hertzbid/hertzbid/ConflictPairsNeighboursPinLaw", "one", "(IIII)I"⟩ : MethodName)) hown (mvT hZ (hw _ (List.mem_of_getElem? (i := 1) rfl))) (mvT hZ (hw _ (List.mem_of_getElem? (i := 2) rfl))) (mvT hZ (hw _ (List.mem_of_getElem? (i := 3) rfl))) (mvT hZ (hw _ (List.mem_of_getElem? (i := 4) rfl))) (by decide) (backOf (W := 0) (rm1 l Z a0 hw [] p2 v3 (0 : Int32) (1 : Int32) h0 n0 Z0) hZ (hw _ (List.mem_of_getElem? (i := 4) rfl)) (hw _ (List.mem_of_getElem? (i := 3) rfl)) (by decide) (by decide)) (g := (mkF m 12 #[.val (.int p1), .val (.int p2), .val (.int v3), .unset, .unset, .unset, .unset] [(.int (1 : Int32)), (.int (0 : Int32)), (.int v3), (.int p2)])) rfl (by rw [hml]; rfl) (argsL := [(.int p2), (.int v3), (.int (0 : Int32)), (.int (1 : Int32))]) (rest := []) (lenOf pd_4 rfl) rfl (by show 2 * 0 + _ ≤ _; exact Nat.le_of_eq rfl) (hb hby at_12) (fun _ _ => ⟨rfl, e0, (by decide : 0 + 0 ≤ _), (by decide : 0 + 0 ≤ _)⟩)
  dsimp only [Pt.U, Pt.locs, Pt.cells, Pt.slots] at X4 l4 y4 z4 st4 hQ4
  replace y4 : k4 = 0 := y4
  replace z4 : n4 = 0 := z4
  subst y4 z4
  obtain ⟨rfl, N4q, e4⟩ := hQ4
  have N4 : Fr n0 L4 := Eq.mpr (congrArg (Fr n0) l4) (Fr.app N0 N4q)
  refine Go.step st4 ?_
  show Go p e below _ (T4.setTop (mkF m 15 _ [(.int (f1 p2 v3 (0 : Int32) (1 : Int32)))]))
  refine gI (q := 16) X4 hx (hb hby at_15) rfl rfl ?_
  refine gI (q := 17) X4 hx (hb hby at_16) rfl rfl ?_
  refine gC (q := 18) (v := 0) X4 hx (hb hby at_17) rfl rfl ?_
  refine gC (q := 19) (v := 2) X4 hx (hb hby at_18) rfl rfl ?_
  obtain ⟨_, _, ⟨T5, L5, k5, n5⟩, -, X5, ⟨Lc5, hQ5, l5, y5, z5⟩, st5⟩ := Jvm.LawKit.callS X4 hx (y := (⟨"com/example/hertzbid/hertzbid/ConflictPairsNeighboursPinLaw", "one", "(IIII)I"⟩ : MethodName)) hown (mvT hZ (hw _ (List.mem_of_getElem? (i := 1) rfl))) (mvT hZ (hw _ (List.mem_of_getElem? (i := 2) rfl))) (mvT hZ (hw _ (List.mem_of_getElem? (i := 3) rfl))) (mvT hZ (hw _ (List.mem_of_getElem? (i := 4) rfl))) (by decide) (backOf (W := 1) (rm1 l Z a0 hw [] p2 v3 (0 : Int32) (2 : Int32) h0 n0 Z0) hZ (hw _ (List.mem_of_getElem? (i := 4) rfl)) (hw _ (List.mem_of_getElem? (i := 3) rfl)) (by decide) (by decide)) (g := (mkF m 19 #[.val (.int p1), .val (.int p2), .val (.int v3), .unset, .unset, .unset, .unset] [(.int (2 : Int32)), (.int (0 : Int32)), (.int v3), (.int p2), (.int (f1 p2 v3 (0 : Int32) (1 : Int32)))])) rfl (by rw [hml]; rfl) (argsL := [(.int p2), (.int v3), (.int (0 : Int32)), (.int (2 : Int32))]) (rest := [(.int (f1 p2 v3 (0 : Int32) (1 : Int32)))]) (lenOf pd_4 rfl) rfl (by show 2 * 0 + _ ≤ _; exact Nat.le_of_eq rfl) (hb hby at_19) (fun _ _ => ⟨rfl, e4, (by decide : 0 + 0 ≤ _), (by decide : 0 + 0 ≤ _)⟩)
  dsimp only [Pt.U, Pt.locs, Pt.cells, Pt.slots] at X5 l5 y5 z5 st5 hQ5
  replace y5 : k5 = 0 := y5
  replace z5 : n5 = 0 := z5
  subst y5 z5
  obtain ⟨rfl, N5q, e5⟩ := hQ5
  have N5 : Fr n0 L5 := Eq.mpr (congrArg (Fr n0) l5) (Fr.app N4 N5q)
  refine Go.step st5 ?_
  show Go p e below _ (T5.setTop (mkF m 22 _ [(.int (f1 p2 v3 (0 : Int32) (2 : Int32))), (.int (f1 p2 v3 (0 : Int32) (1 : Int32)))]))
  refine Go.step (fun t k => XS.iadd X5.here hx rfl (hb hby at_22) rfl k) ?_
  show Go p e below _ (T5.setTop (mkF m 23 _ [(.int ((f1 p2 v3 (0 : Int32) (1 : Int32)) + (f1 p2 v3 (0 : Int32) (2 : Int32))))]))
  refine gI (q := 24) X5 hx (hb hby at_23) rfl rfl ?_
  refine gI (q := 25) X5 hx (hb hby at_24) rfl rfl ?_
  refine gC (q := 26) (v := 0) X5 hx (hb hby at_25) rfl rfl ?_
  refine gC (q := 27) (v := 3) X5 hx (hb hby at_26) rfl rfl ?_
  obtain ⟨_, _, ⟨T6, L6, k6, n6⟩, -, X6, ⟨Lc6, hQ6, l6, y6, z6⟩, st6⟩ := Jvm.LawKit.callS X5 hx (y := (⟨"com/example/hertzbid/hertzbid/ConflictPairsNeighboursPinLaw", "one", "(IIII)I"⟩ : MethodName)) hown (mvT hZ (hw _ (List.mem_of_getElem? (i := 1) rfl))) (mvT hZ (hw _ (List.mem_of_getElem? (i := 2) rfl))) (mvT hZ (hw _ (List.mem_of_getElem? (i := 3) rfl))) (mvT hZ (hw _ (List.mem_of_getElem? (i := 4) rfl))) (by decide) (backOf (W := 1) (rm1 l Z a0 hw [] p2 v3 (0 : Int32) (3 : Int32) h0 n0 Z0) hZ (hw _ (List.mem_of_getElem? (i := 4) rfl)) (hw _ (List.mem_of_getElem? (i := 3) rfl)) (by decide) (by decide)) (g := (mkF m 27 #[.val (.int p1), .val (.int p2), .val (.int v3), .unset, .unset, .unset, .unset] [(.int (3 : Int32)), (.int (0 : Int32)), (.int v3), (.int p2), (.int ((f1 p2 v3 (0 : Int32) (1 : Int32)) + (f1 p2 v3 (0 : Int32) (2 : Int32))))])) rfl (by rw [hml]; rfl) (argsL := [(.int p2), (.int v3), (.int (0 : Int32)), (.int (3 : Int32))]) (rest := [(.int ((f1 p2 v3 (0 : Int32) (1 : Int32)) + (f1 p2 v3 (0 : Int32) (2 : Int32))))]) (lenOf pd_4 rfl) rfl (by show 2 * 0 + _ ≤ _; exact Nat.le_of_eq rfl) (hb hby at_27) (fun _ _ => ⟨rfl, e5, (by decide : 0 + 0 ≤ _), (by decide : 0 + 0 ≤ _)⟩)
  dsimp only [Pt.U, Pt.locs, Pt.cells, Pt.slots] at X6 l6 y6 z6 st6 hQ6
  replace y6 : k6 = 0 := y6
  replace z6 : n6 = 0 := z6
  subst y6 z6
  obtain ⟨rfl, N6q, e6⟩ := hQ6
  have N6 : Fr n0 L6 := Eq.mpr (congrArg (Fr n0) l6) (Fr.app N5 N6q)
  refine Go.step st6 ?_
  show Go p e below _ (T6.setTop (mkF m 30 _ [(.int (f1 p2 v3 (0 : Int32) (3 : Int32))), (.int ((f1 p2 v3 (0 : Int32) (1 : Int32)) + (f1 p2 v3 (0 : Int32) (2 : Int32))))]))
  refine Go.step (fun t k => XS.iadd X6.here hx rfl (hb hby at_30) rfl k) ?_
  show Go p e below _ (T6.setTop (mkF m 31 _ [(.int (((f1 p2 v3 (0 : Int32) (1 : Int32)) + (f1 p2 v3 (0 : Int32) (2 : Int32))) + (f1 p2 v3 (0 : Int32) (3 : Int32))))]))
  refine gI (q := 32) X6 hx (hb hby at_31) rfl rfl ?_
  refine gI (q := 33) X6 hx (hb hby at_32) rfl rfl ?_
  refine gC (q := 34) (v := 0) X6 hx (hb hby at_33) rfl rfl ?_
  refine gC (q := 35) (v := 4) X6 hx (hb hby at_34) rfl rfl ?_
  obtain ⟨_, _, ⟨T7, L7, k7, n7⟩, -, X7, ⟨Lc7, hQ7, l7, y7, z7⟩, st7⟩ := Jvm.LawKit.callS X6 hx (y := (⟨"com/example/hertzbid/hertzbid/ConflictPairsNeighboursPinLaw", "one", "(IIII)I"⟩ : MethodName)) hown (mvT hZ (hw _ (List.mem_of_getElem? (i := 1) rfl))) (mvT hZ (hw _ (List.mem_of_getElem? (i := 2) rfl))) (mvT hZ (hw _ (List.mem_of_getElem? (i := 3) rfl))) (mvT hZ (hw _ (List.mem_of_getElem? (i := 4) rfl))) (by decide) (backOf (W := 1) (rm1 l Z a0 hw [] p2 v3 (0 : Int32) (4 : Int32) h0 n0 Z0) hZ (hw _ (List.mem_of_getElem? (i := 4) rfl)) (hw _ (List.mem_of_getElem? (i := 3) rfl)) (by decide) (by decide)) (g := (mkF m 35 #[.val (.int p1), .val (.int p2), .val (.int v3), .unset, .unset, .unset, .unset] [(.int (4 : Int32)), (.int (0 : Int32)), (.int v3), (.int p2), (.int (((f1 p2 v3 (0 : Int32) (1 : Int32)) + (f1 p2 v3 (0 : Int32) (2 : Int32))) + (f1 p2 v3 (0 : Int32) (3 : Int32))))])) rfl (by rw [hml]; rfl) (argsL := [(.int p2), (.int v3), (.int (0 : Int32)), (.int (4 : Int32))]) (rest := [(.int (((f1 p2 v3 (0 : Int32) (1 : Int32)) + (f1 p2 v3 (0 : Int32) (2 : Int32))) + (f1 p2 v3 (0 : Int32) (3 : Int32))))]) (lenOf pd_4 rfl) rfl (by show 2 * 0 + _ ≤ _; exact Nat.le_of_eq rfl) (hb hby at_35) (fun _ _ => ⟨rfl, e6, (by decide : 0 + 0 ≤ _), (by decide : 0 + 0 ≤ _)⟩)
  dsimp only [Pt.U, Pt.locs, Pt.cells, Pt.slots] at X7 l7 y7 z7 st7 hQ7
  replace y7 : k7 = 0 := y7
  replace z7 : n7 = 0 := z7
  subst y7 z7
  obtain ⟨rfl, N7q, e7⟩ := hQ7
  have N7 : Fr n0 L7 := Eq.mpr (congrArg (Fr n0) l7) (Fr.app N6 N7q)
  refine Go.step st7 ?_
  show Go p e below _ (T7.setTop (mkF m 38 _ [(.int (f1 p2 v3 (0 : Int32) (4 : Int32))), (.int (((f1 p2 v3 (0 : Int32) (1 : Int32)) + (f1 p2 v3 (0 : Int32) (2 : Int32))) + (f1 p2 v3 (0 : Int32) (3 : Int32))))]))
  refine Go.step (fun t k => XS.iadd X7.here hx rfl (hb hby at_38) rfl k) ?_
  show Go p e below _ (T7.setTop (mkF m 39 _ [(.int ((((f1 p2 v3 (0 : Int32) (1 : Int32)) + (f1 p2 v3 (0 : Int32) (2 : Int32))) + (f1 p2 v3 (0 : Int32) (3 : Int32))) + (f1 p2 v3 (0 : Int32) (4 : Int32))))]))
  refine gI (q := 40) X7 hx (hb hby at_39) rfl rfl ?_
  refine gI (q := 41) X7 hx (hb hby at_40) rfl rfl ?_
  refine gC (q := 42) (v := 1) X7 hx (hb hby at_41) rfl rfl ?_
  refine gC (q := 43) (v := 2) X7 hx (hb hby at_42) rfl rfl ?_
  obtain ⟨_, _, ⟨T8, L8, k8, n8⟩, -, X8, ⟨Lc8, hQ8, l8, y8, z8⟩, st8⟩ := Jvm.LawKit.callS X7 hx (y := (⟨"com/example/hertzbid/hertzbid/ConflictPairsNeighboursPinLaw", "one", "(IIII)I"⟩ : MethodName)) hown (mvT hZ (hw _ (List.mem_of_getElem? (i := 1) rfl))) (mvT hZ (hw _ (List.mem_of_getElem? (i := 2) rfl))) (mvT hZ (hw _ (List.mem_of_getElem? (i := 3) rfl))) (mvT hZ (hw _ (List.mem_of_getElem? (i := 4) rfl))) (by decide) (backOf (W := 1) (rm1 l Z a0 hw [] p2 v3 (1 : Int32) (2 : Int32) h0 n0 Z0) hZ (hw _ (List.mem_of_getElem? (i := 4) rfl)) (hw _ (List.mem_of_getElem? (i := 3) rfl)) (by decide) (by decide)) (g := (mkF m 43 #[.val (.int p1), .val (.int p2), .val (.int v3), .unset, .unset, .unset, .unset] [(.int (2 : Int32)), (.int (1 : Int32)), (.int v3), (.int p2), (.int ((((f1 p2 v3 (0 : Int32) (1 : Int32)) + (f1 p2 v3 (0 : Int32) (2 : Int32))) + (f1 p2 v3 (0 : Int32) (3 : Int32))) + (f1 p2 v3 (0 : Int32) (4 : Int32))))])) rfl (by rw [hml]; rfl) (argsL := [(.int p2), (.int v3), (.int (1 : Int32)), (.int (2 : Int32))]) (rest := [(.int ((((f1 p2 v3 (0 : Int32) (1 : Int32)) + (f1 p2 v3 (0 : Int32) (2 : Int32))) + (f1 p2 v3 (0 : Int32) (3 : Int32))) + (f1 p2 v3 (0 : Int32) (4 : Int32))))]) (lenOf pd_4 rfl) rfl (by show 2 * 0 + _ ≤ _; exact Nat.le_of_eq rfl) (hb hby at_43) (fun _ _ => ⟨rfl, e7, (by decide : 0 + 0 ≤ _), (by decide : 0 + 0 ≤ _)⟩)
  dsimp only [Pt.U, Pt.locs, Pt.cells, Pt.slots] at X8 l8 y8 z8 st8 hQ8
  replace y8 : k8 = 0 := y8
  replace z8 : n8 = 0 := z8
  subst y8 z8
  obtain ⟨rfl, N8q, e8⟩ := hQ8
  have N8 : Fr n0 L8 := Eq.mpr (congrArg (Fr n0) l8) (Fr.app N7 N8q)
  refine Go.step st8 ?_
  show Go p e below _ (T8.setTop (mkF m 46 _ [(.int (f1 p2 v3 (1 : Int32) (2 : Int32))), (.int ((((f1 p2 v3 (0 : Int32) (1 : Int32)) + (f1 p2 v3 (0 : Int32) (2 : Int32))) + (f1 p2 v3 (0 : Int32) (3 : Int32))) + (f1 p2 v3 (0 : Int32) (4 : Int32))))]))
  refine Go.step (fun t k => XS.iadd X8.here hx rfl (hb hby at_46) rfl k) ?_
  show Go p e below _ (T8.setTop (mkF m 47 _ [(.int (((((f1 p2 v3 (0 : Int32) (1 : Int32)) + (f1 p2 v3 (0 : Int32) (2 : Int32))) + (f1 p2 v3 (0 : Int32) (3 : Int32))) + (f1 p2 v3 (0 : Int32) (4 : Int32))) + (f1 p2 v3 (1 : Int32) (2 : Int32))))]))
  refine gI (q := 48) X8 hx (hb hby at_47) rfl rfl ?_
  refine gI (q := 49) X8 hx (hb hby at_48) rfl rfl ?_
  refine gC (q := 50) (v := 1) X8 hx (hb hby at_49) rfl rfl ?_
  refine gC (q := 51) (v := 3) X8 hx (hb hby at_50) rfl rfl ?_
  obtain ⟨_, _, ⟨T9, L9, k9, n9⟩, -, X9, ⟨Lc9, hQ9, l9, y9, z9⟩, st9⟩ := Jvm.LawKit.callS X8 hx (y := (⟨"com/example/hertzbid/hertzbid/ConflictPairsNeighboursPinLaw", "one", "(IIII)I"⟩ : MethodName)) hown (mvT hZ (hw _ (List.mem_of_getElem? (i := 1) rfl))) (mvT hZ (hw _ (List.mem_of_getElem? (i := 2) rfl))) (mvT hZ (hw _ (List.mem_of_getElem? (i := 3) rfl))) (mvT hZ (hw _ (List.mem_of_getElem? (i := 4) rfl))) (by decide) (backOf (W := 1) (rm1 l Z a0 hw [] p2 v3 (1 : Int32) (3 : Int32) h0 n0 Z0) hZ (hw _ (List.mem_of_getElem? (i := 4) rfl)) (hw _ (List.mem_of_getElem? (i := 3) rfl)) (by decide) (by decide)) (g := (mkF m 51 #[.val (.int p1), .val (.int p2), .val (.int v3), .unset, .unset, .unset, .unset] [(.int (3 : Int32)), (.int (1 : Int32)), (.int v3), (.int p2), (.int (((((f1 p2 v3 (0 : Int32) (1 : Int32)) + (f1 p2 v3 (0 : Int32) (2 : Int32))) + (f1 p2 v3 (0 : Int32) (3 : Int32))) + (f1 p2 v3 (0 : Int32) (4 : Int32))) + (f1 p2 v3 (1 : Int32) (2 : Int32))))])) rfl (by rw [hml]; rfl) (argsL := [(.int p2), (.int v3), (.int (1 : Int32)), (.int (3 : Int32))]) (rest := [(.int (((((f1 p2 v3 (0 : Int32) (1 : Int32)) + (f1 p2 v3 (0 : Int32) (2 : Int32))) + (f1 p2 v3 (0 : Int32) (3 : Int32))) + (f1 p2 v3 (0 : Int32) (4 : Int32))) + (f1 p2 v3 (1 : Int32) (2 : Int32))))]) (lenOf pd_4 rfl) rfl (by show 2 * 0 + _ ≤ _; exact Nat.le_of_eq rfl) (hb hby at_51) (fun _ _ => ⟨rfl, e8, (by decide : 0 + 0 ≤ _), (by decide : 0 + 0 ≤ _)⟩)
  dsimp only [Pt.U, Pt.locs, Pt.cells, Pt.slots] at X9 l9 y9 z9 st9 hQ9
  replace y9 : k9 = 0 := y9
  replace z9 : n9 = 0 := z9
  subst y9 z9
  obtain ⟨rfl, N9q, e9⟩ := hQ9
  have N9 : Fr n0 L9 := Eq.mpr (congrArg (Fr n0) l9) (Fr.app N8 N9q)
  refine Go.step st9 ?_
  show Go p e below _ (T9.setTop (mkF m 54 _ [(.int (f1 p2 v3 (1 : Int32) (3 : Int32))), (.int (((((f1 p2 v3 (0 : Int32) (1 : Int32)) + (f1 p2 v3 (0 : Int32) (2 : Int32))) + (f1 p2 v3 (0 : Int32) (3 : Int32))) + (f1 p2 v3 (0 : Int32) (4 : Int32))) + (f1 p2 v3 (1 : Int32) (2 : Int32))))]))
  refine Go.step (fun t k => XS.iadd X9.here hx rfl (hb hby at_54) rfl k) ?_
  show Go p e below _ (T9.setTop (mkF m 55 _ [(.int ((((((f1 p2 v3 (0 : Int32) (1 : Int32)) + (f1 p2 v3 (0 : Int32) (2 : Int32))) + (f1 p2 v3 (0 : Int32) (3 : Int32))) + (f1 p2 v3 (0 : Int32) (4 : Int32))) + (f1 p2 v3 (1 : Int32) (2 : Int32))) + (f1 p2 v3 (1 : Int32) (3 : Int32))))]))
  refine gI (q := 56) X9 hx (hb hby at_55) rfl rfl ?_
  refine gI (q := 57) X9 hx (hb hby at_56) rfl rfl ?_
  refine gC (q := 58) (v := 1) X9 hx (hb hby at_57) rfl rfl ?_
  refine gC (q := 59) (v := 4) X9 hx (hb hby at_58) rfl rfl ?_
  obtain ⟨_, _, ⟨T10, L10, k10, n10⟩, -, X10, ⟨Lc10, hQ10, l10, y10, z10⟩, st10⟩ := Jvm.LawKit.callS X9 hx (y := (⟨"com/example/hertzbid/hertzbid/ConflictPairsNeighboursPinLaw", "one", "(IIII)I"⟩ : MethodName)) hown (mvT hZ (hw _ (List.mem_of_getElem? (i := 1) rfl))) (mvT hZ (hw _ (List.mem_of_getElem? (i := 2) rfl))) (mvT hZ (hw _ (List.mem_of_getElem? (i := 3) rfl))) (mvT hZ (hw _ (List.mem_of_getElem? (i := 4) rfl))) (by decide) (backOf (W := 1) (rm1 l Z a0 hw [] p2 v3 (1 : Int32) (4 : Int32) h0 n0 Z0) hZ (hw _ (List.mem_of_getElem? (i := 4) rfl)) (hw _ (List.mem_of_getElem? (i := 3) rfl)) (by decide) (by decide)) (g := (mkF m 59 #[.val (.int p1), .val (.int p2), .val (.int v3), .unset, .unset, .unset, .unset] [(.int (4 : Int32)), (.int (1 : Int32)), (.int v3), (.int p2), (.int ((((((f1 p2 v3 (0 : Int32) (1 : Int32)) + (f1 p2 v3 (0 : Int32) (2 : Int32))) + (f1 p2 v3 (0 : Int32) (3 : Int32))) + (f1 p2 v3 (0 : Int32) (4 : Int32))) + (f1 p2 v3 (1 : Int32) (2 : Int32))) + (f1 p2 v3 (1 : Int32) (3 : Int32))))])) rfl (by rw [hml]; rfl) (argsL := [(.int p2), (.int v3), (.int (1 : Int32)), (.int (4 : Int32))]) (rest := [(.int ((((((f1 p2 v3 (0 : Int32) (1 : Int32)) + (f1 p2 v3 (0 : Int32) (2 : Int32))) + (f1 p2 v3 (0 : Int32) (3 : Int32))) + (f1 p2 v3 (0 : Int32) (4 : Int32))) + (f1 p2 v3 (1 : Int32) (2 : Int32))) + (f1 p2 v3 (1 : Int32) (3 : Int32))))]) (lenOf pd_4 rfl) rfl (by show 2 * 0 + _ ≤ _; exact Nat.le_of_eq rfl) (hb hby at_59) (fun _ _ => ⟨rfl, e9, (by decide : 0 + 0 ≤ _), (by decide : 0 + 0 ≤ _)⟩)
  dsimp only [Pt.U, Pt.locs, Pt.cells, Pt.slots] at X10 l10 y10 z10 st10 hQ10
  replace y10 : k10 = 0 := y10
  replace z10 : n10 = 0 := z10
  subst y10 z10
  obtain ⟨rfl, N10q, e10⟩ := hQ10
  have N10 : Fr n0 L10 := Eq.mpr (congrArg (Fr n0) l10) (Fr.app N9 N10q)
  refine Go.step st10 ?_
  show Go p e below _ (T10.setTop (mkF m 62 _ [(.int (f1 p2 v3 (1 : Int32) (4 : Int32))), (.int ((((((f1 p2 v3 (0 : Int32) (1 : Int32)) + (f1 p2 v3 (0 : Int32) (2 : Int32))) + (f1 p2 v3 (0 : Int32) (3 : Int32))) + (f1 p2 v3 (0 : Int32) (4 : Int32))) + (f1 p2 v3 (1 : Int32) (2 : Int32))) + (f1 p2 v3 (1 : Int32) (3 : Int32))))]))
  refine Go.step (fun t k => XS.iadd X10.here hx rfl (hb hby at_62) rfl k) ?_
  show Go p e below _ (T10.setTop (mkF m 63 _ [(.int (((((((f1 p2 v3 (0 : Int32) (1 : Int32)) + (f1 p2 v3 (0 : Int32) (2 : Int32))) + (f1 p2 v3 (0 : Int32) (3 : Int32))) + (f1 p2 v3 (0 : Int32) (4 : Int32))) + (f1 p2 v3 (1 : Int32) (2 : Int32))) + (f1 p2 v3 (1 : Int32) (3 : Int32))) + (f1 p2 v3 (1 : Int32) (4 : Int32))))]))
  refine gI (q := 64) X10 hx (hb hby at_63) rfl rfl ?_
  refine gI (q := 65) X10 hx (hb hby at_64) rfl rfl ?_
  refine gC (q := 66) (v := 2) X10 hx (hb hby at_65) rfl rfl ?_
  refine gC (q := 67) (v := 3) X10 hx (hb hby at_66) rfl rfl ?_
  obtain ⟨_, _, ⟨T11, L11, k11, n11⟩, -, X11, ⟨Lc11, hQ11, l11, y11, z11⟩, st11⟩ := Jvm.LawKit.callS X10 hx (y := (⟨"com/example/hertzbid/hertzbid/ConflictPairsNeighboursPinLaw", "one", "(IIII)I"⟩ : MethodName)) hown (mvT hZ (hw _ (List.mem_of_getElem? (i := 1) rfl))) (mvT hZ (hw _ (List.mem_of_getElem? (i := 2) rfl))) (mvT hZ (hw _ (List.mem_of_getElem? (i := 3) rfl))) (mvT hZ (hw _ (List.mem_of_getElem? (i := 4) rfl))) (by decide) (backOf (W := 1) (rm1 l Z a0 hw [] p2 v3 (2 : Int32) (3 : Int32) h0 n0 Z0) hZ (hw _ (List.mem_of_getElem? (i := 4) rfl)) (hw _ (List.mem_of_getElem? (i := 3) rfl)) (by decide) (by decide)) (g := (mkF m 67 #[.val (.int p1), .val (.int p2), .val (.int v3), .unset, .unset, .unset, .unset] [(.int (3 : Int32)), (.int (2 : Int32)), (.int v3), (.int p2), (.int (((((((f1 p2 v3 (0 : Int32) (1 : Int32)) + (f1 p2 v3 (0 : Int32) (2 : Int32))) + (f1 p2 v3 (0 : Int32) (3 : Int32))) + (f1 p2 v3 (0 : Int32) (4 : Int32))) + (f1 p2 v3 (1 : Int32) (2 : Int32))) + (f1 p2 v3 (1 : Int32) (3 : Int32))) + (f1 p2 v3 (1 : Int32) (4 : Int32))))])) rfl (by rw [hml]; rfl) (argsL := [(.int p2), (.int v3), (.int (2 : Int32)), (.int (3 : Int32))]) (rest := [(.int (((((((f1 p2 v3 (0 : Int32) (1 : Int32)) + (f1 p2 v3 (0 : Int32) (2 : Int32))) + (f1 p2 v3 (0 : Int32) (3 : Int32))) + (f1 p2 v3 (0 : Int32) (4 : Int32))) + (f1 p2 v3 (1 : Int32) (2 : Int32))) + (f1 p2 v3 (1 : Int32) (3 : Int32))) + (f1 p2 v3 (1 : Int32) (4 : Int32))))]) (lenOf pd_4 rfl) rfl (by show 2 * 0 + _ ≤ _; exact Nat.le_of_eq rfl) (hb hby at_67) (fun _ _ => ⟨rfl, e10, (by decide : 0 + 0 ≤ _), (by decide : 0 + 0 ≤ _)⟩)
  dsimp only [Pt.U, Pt.locs, Pt.cells, Pt.slots] at X11 l11 y11 z11 st11 hQ11
  replace y11 : k11 = 0 := y11
  replace z11 : n11 = 0 := z11
  subst y11 z11
  obtain ⟨rfl, N11q, e11⟩ := hQ11
  have N11 : Fr n0 L11 := Eq.mpr (congrArg (Fr n0) l11) (Fr.app N10 N11q)
  refine Go.step st11 ?_
  show Go p e below _ (T11.setTop (mkF m 70 _ [(.int (f1 p2 v3 (2 : Int32) (3 : Int32))), (.int (((((((f1 p2 v3 (0 : Int32) (1 : Int32)) + (f1 p2 v3 (0 : Int32) (2 : Int32))) + (f1 p2 v3 (0 : Int32) (3 : Int32))) + (f1 p2 v3 (0 : Int32) (4 : Int32))) + (f1 p2 v3 (1 : Int32) (2 : Int32))) + (f1 p2 v3 (1 : Int32) (3 : Int32))) + (f1 p2 v3 (1 : Int32) (4 : Int32))))]))
  refine Go.step (fun t k => XS.iadd X11.here hx rfl (hb hby at_70) rfl k) ?_
  show Go p e below _ (T11.setTop (mkF m 71 _ [(.int ((((((((f1 p2 v3 (0 : Int32) (1 : Int32)) + (f1 p2 v3 (0 : Int32) (2 : Int32))) + (f1 p2 v3 (0 : Int32) (3 : Int32))) + (f1 p2 v3 (0 : Int32) (4 : Int32))) + (f1 p2 v3 (1 : Int32) (2 : Int32))) + (f1 p2 v3 (1 : Int32) (3 : Int32))) + (f1 p2 v3 (1 : Int32) (4 : Int32))) + (f1 p2 v3 (2 : Int32) (3 : Int32))))]))
  refine gI (q := 72) X11 hx (hb hby at_71) rfl rfl ?_
  refine gI (q := 73) X11 hx (hb hby at_72) rfl rfl ?_
  refine gC (q := 74) (v := 2) X11 hx (hb hby at_73) rfl rfl ?_
  refine gC (q := 75) (v := 4) X11 hx (hb hby at_74) rfl rfl ?_
  obtain ⟨_, _, ⟨T12, L12, k12, n12⟩, -, X12, ⟨Lc12, hQ12, l12, y12, z12⟩, st12⟩ := Jvm.LawKit.callS X11 hx (y := (⟨"com/example/hertzbid/hertzbid/ConflictPairsNeighboursPinLaw", "one", "(IIII)I"⟩ : MethodName)) hown (mvT hZ (hw _ (List.mem_of_getElem? (i := 1) rfl))) (mvT hZ (hw _ (List.mem_of_getElem? (i := 2) rfl))) (mvT hZ (hw _ (List.mem_of_getElem? (i := 3) rfl))) (mvT hZ (hw _ (List.mem_of_getElem? (i := 4) rfl))) (by decide) (backOf (W := 1) (rm1 l Z a0 hw [] p2 v3 (2 : Int32) (4 : Int32) h0 n0 Z0) hZ (hw _ (List.mem_of_getElem? (i := 4) rfl)) (hw _ (List.mem_of_getElem? (i := 3) rfl)) (by decide) (by decide)) (g := (mkF m 75 #[.val (.int p1), .val (.int p2), .val (.int v3), .unset, .unset, .unset, .unset] [(.int (4 : Int32)), (.int (2 : Int32)), (.int v3), (.int p2), (.int ((((((((f1 p2 v3 (0 : Int32) (1 : Int32)) + (f1 p2 v3 (0 : Int32) (2 : Int32))) + (f1 p2 v3 (0 : Int32) (3 : Int32))) + (f1 p2 v3 (0 : Int32) (4 : Int32))) + (f1 p2 v3 (1 : Int32) (2 : Int32))) + (f1 p2 v3 (1 : Int32) (3 : Int32))) + (f1 p2 v3 (1 : Int32) (4 : Int32))) + (f1 p2 v3 (2 : Int32) (3 : Int32))))])) rfl (by rw [hml]; rfl) (argsL := [(.int p2), (.int v3), (.int (2 : Int32)), (.int (4 : Int32))]) (rest := [(.int ((((((((f1 p2 v3 (0 : Int32) (1 : Int32)) + (f1 p2 v3 (0 : Int32) (2 : Int32))) + (f1 p2 v3 (0 : Int32) (3 : Int32))) + (f1 p2 v3 (0 : Int32) (4 : Int32))) + (f1 p2 v3 (1 : Int32) (2 : Int32))) + (f1 p2 v3 (1 : Int32) (3 : Int32))) + (f1 p2 v3 (1 : Int32) (4 : Int32))) + (f1 p2 v3 (2 : Int32) (3 : Int32))))]) (lenOf pd_4 rfl) rfl (by show 2 * 0 + _ ≤ _; exact Nat.le_of_eq rfl) (hb hby at_75) (fun _ _ => ⟨rfl, e11, (by decide : 0 + 0 ≤ _), (by decide : 0 + 0 ≤ _)⟩)
  dsimp only [Pt.U, Pt.locs, Pt.cells, Pt.slots] at X12 l12 y12 z12 st12 hQ12
  replace y12 : k12 = 0 := y12
  replace z12 : n12 = 0 := z12
  subst y12 z12
  obtain ⟨rfl, N12q, e12⟩ := hQ12
  have N12 : Fr n0 L12 := Eq.mpr (congrArg (Fr n0) l12) (Fr.app N11 N12q)
  refine Go.step st12 ?_
  show Go p e below _ (T12.setTop (mkF m 78 _ [(.int (f1 p2 v3 (2 : Int32) (4 : Int32))), (.int ((((((((f1 p2 v3 (0 : Int32) (1 : Int32)) + (f1 p2 v3 (0 : Int32) (2 : Int32))) + (f1 p2 v3 (0 : Int32) (3 : Int32))) + (f1 p2 v3 (0 : Int32) (4 : Int32))) + (f1 p2 v3 (1 : Int32) (2 : Int32))) + (f1 p2 v3 (1 : Int32) (3 : Int32))) + (f1 p2 v3 (1 : Int32) (4 : Int32))) + (f1 p2 v3 (2 : Int32) (3 : Int32))))]))
  refine Go.step (fun t k => XS.iadd X12.here hx rfl (hb hby at_78) rfl k) ?_
  show Go p e below _ (T12.setTop (mkF m 79 _ [(.int (((((((((f1 p2 v3 (0 : Int32) (1 : Int32)) + (f1 p2 v3 (0 : Int32) (2 : Int32))) + (f1 p2 v3 (0 : Int32) (3 : Int32))) + (f1 p2 v3 (0 : Int32) (4 : Int32))) + (f1 p2 v3 (1 : Int32) (2 : Int32))) + (f1 p2 v3 (1 : Int32) (3 : Int32))) + (f1 p2 v3 (1 : Int32) (4 : Int32))) + (f1 p2 v3 (2 : Int32) (3 : Int32))) + (f1 p2 v3 (2 : Int32) (4 : Int32))))]))
  refine gI (q := 80) X12 hx (hb hby at_79) rfl rfl ?_
  refine gI (q := 81) X12 hx (hb hby at_80) rfl rfl ?_
  refine gC (q := 82) (v := 3) X12 hx (hb hby at_81) rfl rfl ?_
  refine gC (q := 83) (v := 4) X12 hx (hb hby at_82) rfl rfl ?_
  obtain ⟨_, _, ⟨T13, L13, k13, n13⟩, -, X13, ⟨Lc13, hQ13, l13, y13, z13⟩, st13⟩ := Jvm.LawKit.callS X12 hx (y := (⟨"com/example/hertzbid/hertzbid/ConflictPairsNeighboursPinLaw", "one", "(IIII)I"⟩ : MethodName)) hown (mvT hZ (hw _ (List.mem_of_getElem? (i := 1) rfl))) (mvT hZ (hw _ (List.mem_of_getElem? (i := 2) rfl))) (mvT hZ (hw _ (List.mem_of_getElem? (i := 3) rfl))) (mvT hZ (hw _ (List.mem_of_getElem? (i := 4) rfl))) (by decide) (backOf (W := 1) (rm1 l Z a0 hw [] p2 v3 (3 : Int32) (4 : Int32) h0 n0 Z0) hZ (hw _ (List.mem_of_getElem? (i := 4) rfl)) (hw _ (List.mem_of_getElem? (i := 3) rfl)) (by decide) (by decide)) (g := (mkF m 83 #[.val (.int p1), .val (.int p2), .val (.int v3), .unset, .unset, .unset, .unset] [(.int (4 : Int32)), (.int (3 : Int32)), (.int v3), (.int p2), (.int (((((((((f1 p2 v3 (0 : Int32) (1 : Int32)) + (f1 p2 v3 (0 : Int32) (2 : Int32))) + (f1 p2 v3 (0 : Int32) (3 : Int32))) + (f1 p2 v3 (0 : Int32) (4 : Int32))) + (f1 p2 v3 (1 : Int32) (2 : Int32))) + (f1 p2 v3 (1 : Int32) (3 : Int32))) + (f1 p2 v3 (1 : Int32) (4 : Int32))) + (f1 p2 v3 (2 : Int32) (3 : Int32))) + (f1 p2 v3 (2 : Int32) (4 : Int32))))])) rfl (by rw [hml]; rfl) (argsL := [(.int p2), (.int v3), (.int (3 : Int32)), (.int (4 : Int32))]) (rest := [(.int (((((((((f1 p2 v3 (0 : Int32) (1 : Int32)) + (f1 p2 v3 (0 : Int32) (2 : Int32))) + (f1 p2 v3 (0 : Int32) (3 : Int32))) + (f1 p2 v3 (0 : Int32) (4 : Int32))) + (f1 p2 v3 (1 : Int32) (2 : Int32))) + (f1 p2 v3 (1 : Int32) (3 : Int32))) + (f1 p2 v3 (1 : Int32) (4 : Int32))) + (f1 p2 v3 (2 : Int32) (3 : Int32))) + (f1 p2 v3 (2 : Int32) (4 : Int32))))]) (lenOf pd_4 rfl) rfl (by show 2 * 0 + _ ≤ _; exact Nat.le_of_eq rfl) (hb hby at_83) (fun _ _ => ⟨rfl, e12, (by decide : 0 + 0 ≤ _), (by decide : 0 + 0 ≤ _)⟩)
  dsimp only [Pt.U, Pt.locs, Pt.cells, Pt.slots] at X13 l13 y13 z13 st13 hQ13
  replace y13 : k13 = 0 := y13
  replace z13 : n13 = 0 := z13
  subst y13 z13
  obtain ⟨rfl, N13q, e13⟩ := hQ13
  have N13 : Fr n0 L13 := Eq.mpr (congrArg (Fr n0) l13) (Fr.app N12 N13q)
  refine Go.step st13 ?_
  show Go p e below _ (T13.setTop (mkF m 86 _ [(.int (f1 p2 v3 (3 : Int32) (4 : Int32))), (.int (((((((((f1 p2 v3 (0 : Int32) (1 : Int32)) + (f1 p2 v3 (0 : Int32) (2 : Int32))) + (f1 p2 v3 (0 : Int32) (3 : Int32))) + (f1 p2 v3 (0 : Int32) (4 : Int32))) + (f1 p2 v3 (1 : Int32) (2 : Int32))) + (f1 p2 v3 (1 : Int32) (3 : Int32))) + (f1 p2 v3 (1 : Int32) (4 : Int32))) + (f1 p2 v3 (2 : Int32) (3 : Int32))) + (f1 p2 v3 (2 : Int32) (4 : Int32))))]))
  refine Go.step (fun t k => XS.iadd X13.here hx rfl (hb hby at_86) rfl k) ?_
  show Go p e below _ (T13.setTop (mkF m 87 _ [(.int ((((((((((f1 p2 v3 (0 : Int32) (1 : Int32)) + (f1 p2 v3 (0 : Int32) (2 : Int32))) + (f1 p2 v3 (0 : Int32) (3 : Int32))) + (f1 p2 v3 (0 : Int32) (4 : Int32))) + (f1 p2 v3 (1 : Int32) (2 : Int32))) + (f1 p2 v3 (1 : Int32) (3 : Int32))) + (f1 p2 v3 (1 : Int32) (4 : Int32))) + (f1 p2 v3 (2 : Int32) (3 : Int32))) + (f1 p2 v3 (2 : Int32) (4 : Int32))) + (f1 p2 v3 (3 : Int32) (4 : Int32))))]))
  refine nameIt (fun zz : Int32 => Go p e below _ (T13.setTop (mkF m 87 #[.val (.int p1), .val (.int p2), .val (.int v3), .unset, .unset, .unset, .unset] [(.int zz)]))) ((((((((((f1 p2 v3 (0 : Int32) (1 : Int32)) + (f1 p2 v3 (0 : Int32) (2 : Int32))) + (f1 p2 v3 (0 : Int32) (3 : Int32))) + (f1 p2 v3 (0 : Int32) (4 : Int32))) + (f1 p2 v3 (1 : Int32) (2 : Int32))) + (f1 p2 v3 (1 : Int32) (3 : Int32))) + (f1 p2 v3 (1 : Int32) (4 : Int32))) + (f1 p2 v3 (2 : Int32) (3 : Int32))) + (f1 p2 v3 (2 : Int32) (4 : Int32))) + (f1 p2 v3 (3 : Int32) (4 : Int32))) ?_
  intro v14 hv14
  show Go p e below _ (T13.setTop (mkF m 87 _ [(.int v14)]))
  refine Go.step (fun t k => XS.istoreN X13.here hx rfl (hb hby at_87) rfl (l' := #[.val (.int p1), .val (.int p2), .val (.int v3), .val (.int v14), .unset, .unset, .unset]) rfl k) ?_
  show Go p e below _ (T13.setTop (mkF m 88 _ []))
  refine gI (q := 89) X13 hx (hb hby at_88) rfl rfl ?_
  obtain ⟨T15, h15, k15, X15, e15, E15, A15, st15⟩ := newP X13 hx hZ (hw _ (List.mem_of_getElem? (i := 8) rfl)) e13 (g := (mkF m 89 #[.val (.int p1), .val (.int p2), .val (.int v3), .val (.int v14), .unset, .unset, .unset] [(.int v14)])) rfl (hb hby at_89) rfl ((own_cap hv14).1 : ¬ v14 < 0) (cap := 10) ((own_cap hv14).2.1 : v14.toNatClampNeg ≤ 10) (by decide) (by decide) (by decide)
  obtain ⟨b15, g15⟩ : ∃ z, z = h0.size := ⟨_, rfl⟩
  rw [← g15] at A15 st15
  have g_b15 : n0 ≤ b15 := Nat.le_trans Z0 (Nat.le_of_eq g15.symm)
  have sz_b15 : h0.size ≤ b15 := Nat.le_trans KK0.1 (Nat.le_of_eq g15.symm)
  refine Go.step st15 ?_
  have Z15 := Nat.le_trans Z0 E15.1
  have KK15 : Keep h0 h15 [] := KK0.ext E15
  have A_b15_15 : Ary Z h15 b15 .long (EE p2 v3).length (fun i => .long ((fun _ => (0 : Int64)) i)) := Ary.mk A15 ((own_cap hv14).1 : ¬ v14 < 0) (own_cap hv14).2.2
  replace X15 : Stand p l e room_1 s m #[(.int p1), (.int p2)] below meth c T15 _ 1 10 := X15
  show Go p e below _ (T15.setTop (mkF m 91 _ [(.ref b15)]))
  refine Go.step (fun t k => XS.astore X15.here hx rfl (hb hby at_91) rfl rfl (l' := #[.val (.int p1), .val (.int p2), .val (.int v3), .val (.int v14), .val (.ref b15), .unset, .unset]) rfl k) ?_
  show Go p e below _ (T15.setTop (mkF m 93 _ []))
  refine gC (q := 94) (v := 0) X15 hx (hb hby at_93) rfl rfl ?_
  refine Go.step (fun t k => XS.istore X15.here hx rfl (hb hby at_94) rfl (l' := #[.val (.int p1), .val (.int p2), .val (.int v3), .val (.int v14), .val (.ref b15), .val (.int (0 : Int32)), .unset]) rfl k) ?_
  show Go p e below _ (T15.setTop (mkF m 96 _ []))
  have A_b15_15e : Ary Z h15 b15 .long (EE p2 v3).length (fun i => .long ((encF ([] : List (Nat × Nat))) i)) := A_b15_15.congr fun i _ => congrArg Value.long (encNil i)
  show Go p e below _ (T15.setTop (mkF m 96 #[.val (.int p1), .val (.int p2), .val (.int v3), .val (.int v14), .val (.ref b15), .val (.int (Int32.ofNat ([] : List (Nat × Nat)).length)), .unset] []))
  refine gB (q := 98) X15 hx (hb hby at_96) rfl rfl rfl ?_
  refine gJ (q := 100) X15 hx (hb hby at_98) rfl rfl ?_
  refine gI (q := 101) X15 hx (hb hby at_100) rfl rfl ?_
  refine gI (q := 102) X15 hx (hb hby at_101) rfl rfl ?_
  refine gC (q := 103) (v := 0) X15 hx (hb hby at_102) rfl rfl ?_
  refine gC (q := 104) (v := 1) X15 hx (hb hby at_103) rfl rfl ?_
  obtain ⟨_, _, ⟨T16, L16, k16, n16⟩, -, X16, ⟨Lc16, hQ16, l16, y16, z16⟩, st16⟩ := Jvm.LawKit.callS X15 hx (y := (⟨"com/example/hertzbid/hertzbid/ConflictPairsNeighboursPinLaw", "put", "([JIIIII)I"⟩ : MethodName)) hown (mvT hZ (hw _ (List.mem_of_getElem? (i := 9) rfl))) (mvT hZ (hw _ (List.mem_of_getElem? (i := 10) rfl))) (mvT hZ (hw _ (List.mem_of_getElem? (i := 3) rfl))) (mvT hZ (hw _ (List.mem_of_getElem? (i := 11) rfl))) (by decide) (backOf (W := 0) (rm3 l Z a0 hw [] b15 p2 v3 (0 : Int32) (1 : Int32) (EE p2 v3).length ([] : List (Nat × Nat)) (0, 1) h15 n0 Z15 (fun h => own_b0 p2 v3 h : ¬ ((f2 p2 v3 (0 : Int32) (1 : Int32)) = (0 : Int32)) → ([] : List (Nat × Nat)).length < (EE p2 v3).length) (own_l0 p2 v3 : ([] : List (Nat × Nat)).length < 2147483648) (by decide +kernel : (((0 : Int32).toInt64 <<< ((32 : Int32) &&& 0x3f).toInt64) ||| ((1 : Int32).toInt64)) = enc (0, 1)) A_b15_15e g_b15) hZ (hw _ (List.mem_of_getElem? (i := 11) rfl)) (hw _ (List.mem_of_getElem? (i := 3) rfl)) (by decide) (by decide)) (g := (mkF m 104 #[.val (.int p1), .val (.int p2), .val (.int v3), .val (.int v14), .val (.ref b15), .val (.int (Int32.ofNat ([] : List (Nat × Nat)).length)), .unset] [(.int (1 : Int32)), (.int (0 : Int32)), (.int v3), (.int p2), (.int (Int32.ofNat ([] : List (Nat × Nat)).length)), (.ref b15)])) rfl (by rw [hml]; rfl) (argsL := [(.ref b15), (.int (Int32.ofNat ([] : List (Nat × Nat)).length)), (.int p2), (.int v3), (.int (0 : Int32)), (.int (1 : Int32))]) (rest := []) (lenOf pd_5 rfl) rfl (by show 2 * 0 + _ ≤ _; exact Nat.le_of_eq rfl) (hb hby at_104) (fun _ _ => ⟨rfl, e15, (by decide : 1 + 0 ≤ _), (by decide : 10 + 0 ≤ _)⟩)
  dsimp only [Pt.U, Pt.locs, Pt.cells, Pt.slots] at X16 l16 y16 z16 st16 hQ16
  replace y16 : k16 = 1 := y16
  replace z16 : n16 = 10 := z16
  subst y16 z16
  obtain ⟨rfl, N16q, K16, Q16_0⟩ := hQ16
  have N16 : Fr n0 L16 := Eq.mpr (congrArg (Fr n0) l16) (Fr.app N13 N16q)
  have Z16 := Nat.le_trans Z15 K16.1
  have KK16 : Keep h0 T16.heap [] := KK15.trans K16 (allS (Or.inr sz_b15) all0)
  refine Go.step st16 ?_
  show Go p e below _ (T16.setTop (mkF m 107 _ [(.int (Int32.ofNat (putE (f2 p2 v3 (0 : Int32) (1 : Int32)) (0, 1) ([] : List (Nat × Nat))).length))]))
  refine Go.step (fun t k => XS.istore X16.here hx rfl (hb hby at_107) rfl (l' := #[.val (.int p1), .val (.int p2), .val (.int v3), .val (.int v14), .val (.ref b15), .val (.int (Int32.ofNat (putE (f2 p2 v3 (0 : Int32) (1 : Int32)) (0, 1) ([] : List (Nat × Nat))).length)), .unset]) rfl k) ?_
  show Go p e below _ (T16.setTop (mkF m 109 _ []))
  refine gB (q := 111) X16 hx (hb hby at_109) rfl rfl rfl ?_
  refine gJ (q := 113) X16 hx (hb hby at_111) rfl rfl ?_
  refine gI (q := 114) X16 hx (hb hby at_113) rfl rfl ?_
  refine gI (q := 115) X16 hx (hb hby at_114) rfl rfl ?_
  refine gC (q := 116) (v := 0) X16 hx (hb hby at_115) rfl rfl ?_
  refine gC (q := 117) (v := 2) X16 hx (hb hby at_116) rfl rfl ?_
  obtain ⟨_, _, ⟨T17, L17, k17, n17⟩, -, X17, ⟨Lc17, hQ17, l17, y17, z17⟩, st17⟩ := Jvm.LawKit.callS X16 hx (y := (⟨"com/example/hertzbid/hertzbid/ConflictPairsNeighboursPinLaw", "put", "([JIIIII)I"⟩ : MethodName)) hown (mvT hZ (hw _ (List.mem_of_getElem? (i := 9) rfl))) (mvT hZ (hw _ (List.mem_of_getElem? (i := 10) rfl))) (mvT hZ (hw _ (List.mem_of_getElem? (i := 3) rfl))) (mvT hZ (hw _ (List.mem_of_getElem? (i := 11) rfl))) (by decide) (backOf (W := 0) (rm3 l Z a0 hw [] b15 p2 v3 (0 : Int32) (2 : Int32) (EE p2 v3).length (putE (f2 p2 v3 (0 : Int32) (1 : Int32)) (0, 1) ([] : List (Nat × Nat))) (0, 2) T16.heap n0 Z16 (fun h => own_b1 p2 v3 h : ¬ ((f2 p2 v3 (0 : Int32) (2 : Int32)) = (0 : Int32)) → (putE (f2 p2 v3 (0 : Int32) (1 : Int32)) (0, 1) ([] : List (Nat × Nat))).length < (EE p2 v3).length) (own_l1 p2 v3 : (putE (f2 p2 v3 (0 : Int32) (1 : Int32)) (0, 1) ([] : List (Nat × Nat))).length < 2147483648) (by decide +kernel : (((0 : Int32).toInt64 <<< ((32 : Int32) &&& 0x3f).toInt64) ||| ((2 : Int32).toInt64)) = enc (0, 2)) Q16_0 g_b15) hZ (hw _ (List.mem_of_getElem? (i := 11) rfl)) (hw _ (List.mem_of_getElem? (i := 3) rfl)) (by decide) (by decide)) (g := (mkF m 117 #[.val (.int p1), .val (.int p2), .val (.int v3), .val (.int v14), .val (.ref b15), .val (.int (Int32.ofNat (putE (f2 p2 v3 (0 : Int32) (1 : Int32)) (0, 1) ([] : List (Nat × Nat))).length)), .unset] [(.int (2 : Int32)), (.int (0 : Int32)), (.int v3), (.int p2), (.int (Int32.ofNat (putE (f2 p2 v3 (0 : Int32) (1 : Int32)) (0, 1) ([] : List (Nat × Nat))).length)), (.ref b15)])) rfl (by rw [hml]; rfl) (argsL := [(.ref b15), (.int (Int32.ofNat (putE (f2 p2 v3 (0 : Int32) (1 : Int32)) (0, 1) ([] : List (Nat × Nat))).length)), (.int p2), (.int v3), (.int (0 : Int32)), (.int (2 : Int32))]) (rest := []) (lenOf pd_5 rfl) rfl (by show 2 * 0 + _ ≤ _; exact Nat.le_of_eq rfl) (hb hby at_117) (fun _ _ => ⟨rfl, rfl, (by decide : 1 + 0 ≤ _), (by decide : 10 + 0 ≤ _)⟩)
  dsimp only [Pt.U, Pt.locs, Pt.cells, Pt.slots] at X17 l17 y17 z17 st17 hQ17
  replace y17 : k17 = 1 := y17
  replace z17 : n17 = 10 := z17
  subst y17 z17
  obtain ⟨rfl, N17q, K17, Q17_0⟩ := hQ17
  have N17 : Fr n0 L17 := Eq.mpr (congrArg (Fr n0) l17) (Fr.app N16 N17q)
  have Z17 := Nat.le_trans Z16 K17.1
  have KK17 : Keep h0 T17.heap [] := KK16.trans K17 (allS (Or.inr sz_b15) all0)
  refine Go.step st17 ?_
  show Go p e below _ (T17.setTop (mkF m 120 _ [(.int (Int32.ofNat (putE (f2 p2 v3 (0 : Int32) (2 : Int32)) (0, 2) (putE (f2 p2 v3 (0 : Int32) (1 : Int32)) (0, 1) ([] : List (Nat × Nat)))).length))]))
  refine Go.step (fun t k => XS.istore X17.here hx rfl (hb hby at_120) rfl (l' := #[.val (.int p1), .val (.int p2), .val (.int v3), .val (.int v14), .val (.ref b15), .val (.int (Int32.ofNat (putE (f2 p2 v3 (0 : Int32) (2 : Int32)) (0, 2) (putE (f2 p2 v3 (0 : Int32) (1 : Int32)) (0, 1) ([] : List (Nat × Nat)))).length)), .unset]) rfl k) ?_
  show Go p e below _ (T17.setTop (mkF m 122 _ []))
  refine gB (q := 124) X17 hx (hb hby at_122) rfl rfl rfl ?_
  refine gJ (q := 126) X17 hx (hb hby at_124) rfl rfl ?_
  refine gI (q := 127) X17 hx (hb hby at_126) rfl rfl ?_
  refine gI (q := 128) X17 hx (hb hby at_127) rfl rfl ?_
  refine gC (q := 129) (v := 0) X17 hx (hb hby at_128) rfl rfl ?_
  refine gC (q := 130) (v := 3) X17 hx (hb hby at_129) rfl rfl ?_
  obtain ⟨_, _, ⟨T18, L18, k18, n18⟩, -, X18, ⟨Lc18, hQ18, l18, y18, z18⟩, st18⟩ := Jvm.LawKit.callS X17 hx (y := (⟨"com/example/hertzbid/hertzbid/ConflictPairsNeighboursPinLaw", "put", "([JIIIII)I"⟩ : MethodName)) hown (mvT hZ (hw _ (List.mem_of_getElem? (i := 9) rfl))) (mvT hZ (hw _ (List.mem_of_getElem? (i := 10) rfl))) (mvT hZ (hw _ (List.mem_of_getElem? (i := 3) rfl))) (mvT hZ (hw _ (List.mem_of_getElem? (i := 11) rfl))) (by decide) (backOf (W := 0) (rm3 l Z a0 hw [] b15 p2 v3 (0 : Int32) (3 : Int32) (EE p2 v3).length (putE (f2 p2 v3 (0 : Int32) (2 : Int32)) (0, 2) (putE (f2 p2 v3 (0 : Int32) (1 : Int32)) (0, 1) ([] : List (Nat × Nat)))) (0, 3) T17.heap n0 Z17 (fun h => own_b2 p2 v3 h : ¬ ((f2 p2 v3 (0 : Int32) (3 : Int32)) = (0 : Int32)) → (putE (f2 p2 v3 (0 : Int32) (2 : Int32)) (0, 2) (putE (f2 p2 v3 (0 : Int32) (1 : Int32)) (0, 1) ([] : List (Nat × Nat)))).length < (EE p2 v3).length) (own_l2 p2 v3 : (putE (f2 p2 v3 (0 : Int32) (2 : Int32)) (0, 2) (putE (f2 p2 v3 (0 : Int32) (1 : Int32)) (0, 1) ([] : List (Nat × Nat)))).length < 2147483648) (by decide +kernel : (((0 : Int32).toInt64 <<< ((32 : Int32) &&& 0x3f).toInt64) ||| ((3 : Int32).toInt64)) = enc (0, 3)) Q17_0 g_b15) hZ (hw _ (List.mem_of_getElem? (i := 11) rfl)) (hw _ (List.mem_of_getElem? (i := 3) rfl)) (by decide) (by decide)) (g := (mkF m 130 #[.val (.int p1), .val (.int p2), .val (.int v3), .val (.int v14), .val (.ref b15), .val (.int (Int32.ofNat (putE (f2 p2 v3 (0 : Int32) (2 : Int32)) (0, 2) (putE (f2 p2 v3 (0 : Int32) (1 : Int32)) (0, 1) ([] : List (Nat × Nat)))).length)), .unset] [(.int (3 : Int32)), (.int (0 : Int32)), (.int v3), (.int p2), (.int (Int32.ofNat (putE (f2 p2 v3 (0 : Int32) (2 : Int32)) (0, 2) (putE (f2 p2 v3 (0 : Int32) (1 : Int32)) (0, 1) ([] : List (Nat × Nat)))).length)), (.ref b15)])) rfl (by rw [hml]; rfl) (argsL := [(.ref b15), (.int (Int32.ofNat (putE (f2 p2 v3 (0 : Int32) (2 : Int32)) (0, 2) (putE (f2 p2 v3 (0 : Int32) (1 : Int32)) (0, 1) ([] : List (Nat × Nat)))).length)), (.int p2), (.int v3), (.int (0 : Int32)), (.int (3 : Int32))]) (rest := []) (lenOf pd_5 rfl) rfl (by show 2 * 0 + _ ≤ _; exact Nat.le_of_eq rfl) (hb hby at_130) (fun _ _ => ⟨rfl, rfl, (by decide : 1 + 0 ≤ _), (by decide : 10 + 0 ≤ _)⟩)
  dsimp only [Pt.U, Pt.locs, Pt.cells, Pt.slots] at X18 l18 y18 z18 st18 hQ18
  replace y18 : k18 = 1 := y18
  replace z18 : n18 = 10 := z18
  subst y18 z18
  obtain ⟨rfl, N18q, K18, Q18_0⟩ := hQ18
  have N18 : Fr n0 L18 := Eq.mpr (congrArg (Fr n0) l18) (Fr.app N17 N18q)
  have Z18 := Nat.le_trans Z17 K18.1
  have KK18 : Keep h0 T18.heap [] := KK17.trans K18 (allS (Or.inr sz_b15) all0)
  refine Go.step st18 ?_
  show Go p e below _ (T18.setTop (mkF m 133 _ [(.int (Int32.ofNat (putE (f2 p2 v3 (0 : Int32) (3 : Int32)) (0, 3) (putE (f2 p2 v3 (0 : Int32) (2 : Int32)) (0, 2) (putE (f2 p2 v3 (0 : Int32) (1 : Int32)) (0, 1) ([] : List (Nat × Nat))))).length))]))
  refine Go.step (fun t k => XS.istore X18.here hx rfl (hb hby at_133) rfl (l' := #[.val (.int p1), .val (.int p2), .val (.int v3), .val (.int v14), .val (.ref b15), .val (.int (Int32.ofNat (putE (f2 p2 v3 (0 : Int32) (3 : Int32)) (0, 3) (putE (f2 p2 v3 (0 : Int32) (2 : Int32)) (0, 2) (putE (f2 p2 v3 (0 : Int32) (1 : Int32)) (0, 1) ([] : List (Nat × Nat))))).length)), .unset]) rfl k) ?_
  show Go p e below _ (T18.setTop (mkF m 135 _ []))
  refine gB (q := 137) X18 hx (hb hby at_135) rfl rfl rfl ?_
  refine gJ (q := 139) X18 hx (hb hby at_137) rfl rfl ?_
  refine gI (q := 140) X18 hx (hb hby at_139) rfl rfl ?_
  refine gI (q := 141) X18 hx (hb hby at_140) rfl rfl ?_
  refine gC (q := 142) (v := 0) X18 hx (hb hby at_141) rfl rfl ?_
  refine gC (q := 143) (v := 4) X18 hx (hb hby at_142) rfl rfl ?_
  obtain ⟨_, _, ⟨T19, L19, k19, n19⟩, -, X19, ⟨Lc19, hQ19, l19, y19, z19⟩, st19⟩ := Jvm.LawKit.callS X18 hx (y := (⟨"com/example/hertzbid/hertzbid/ConflictPairsNeighboursPinLaw", "put", "([JIIIII)I"⟩ : MethodName)) hown (mvT hZ (hw _ (List.mem_of_getElem? (i := 9) rfl))) (mvT hZ (hw _ (List.mem_of_getElem? (i := 10) rfl))) (mvT hZ (hw _ (List.mem_of_getElem? (i := 3) rfl))) (mvT hZ (hw _ (List.mem_of_getElem? (i := 11) rfl))) (by decide) (backOf (W := 0) (rm3 l Z a0 hw [] b15 p2 v3 (0 : Int32) (4 : Int32) (EE p2 v3).length (putE (f2 p2 v3 (0 : Int32) (3 : Int32)) (0, 3) (putE (f2 p2 v3 (0 : Int32) (2 : Int32)) (0, 2) (putE (f2 p2 v3 (0 : Int32) (1 : Int32)) (0, 1) ([] : List (Nat × Nat))))) (0, 4) T18.heap n0 Z18 (fun h => own_b3 p2 v3 h : ¬ ((f2 p2 v3 (0 : Int32) (4 : Int32)) = (0 : Int32)) → (putE (f2 p2 v3 (0 : Int32) (3 : Int32)) (0, 3) (putE (f2 p2 v3 (0 : Int32) (2 : Int32)) (0, 2) (putE (f2 p2 v3 (0 : Int32) (1 : Int32)) (0, 1) ([] : List (Nat × Nat))))).length < (EE p2 v3).length) (own_l3 p2 v3 : (putE (f2 p2 v3 (0 : Int32) (3 : Int32)) (0, 3) (putE (f2 p2 v3 (0 : Int32) (2 : Int32)) (0, 2) (putE (f2 p2 v3 (0 : Int32) (1 : Int32)) (0, 1) ([] : List (Nat × Nat))))).length < 2147483648) (by decide +kernel : (((0 : Int32).toInt64 <<< ((32 : Int32) &&& 0x3f).toInt64) ||| ((4 : Int32).toInt64)) = enc (0, 4)) Q18_0 g_b15) hZ (hw _ (List.mem_of_getElem? (i := 11) rfl)) (hw _ (List.mem_of_getElem? (i := 3) rfl)) (by decide) (by decide)) (g := (mkF m 143 #[.val (.int p1), .val (.int p2), .val (.int v3), .val (.int v14), .val (.ref b15), .val (.int (Int32.ofNat (putE (f2 p2 v3 (0 : Int32) (3 : Int32)) (0, 3) (putE (f2 p2 v3 (0 : Int32) (2 : Int32)) (0, 2) (putE (f2 p2 v3 (0 : Int32) (1 : Int32)) (0, 1) ([] : List (Nat × Nat))))).length)), .unset] [(.int (4 : Int32)), (.int (0 : Int32)), (.int v3), (.int p2), (.int (Int32.ofNat (putE (f2 p2 v3 (0 : Int32) (3 : Int32)) (0, 3) (putE (f2 p2 v3 (0 : Int32) (2 : Int32)) (0, 2) (putE (f2 p2 v3 (0 : Int32) (1 : Int32)) (0, 1) ([] : List (Nat × Nat))))).length)), (.ref b15)])) rfl (by rw [hml]; rfl) (argsL := [(.ref b15), (.int (Int32.ofNat (putE (f2 p2 v3 (0 : Int32) (3 : Int32)) (0, 3) (putE (f2 p2 v3 (0 : Int32) (2 : Int32)) (0, 2) (putE (f2 p2 v3 (0 : Int32) (1 : Int32)) (0, 1) ([] : List (Nat × Nat))))).length)), (.int p2), (.int v3), (.int (0 : Int32)), (.int (4 : Int32))]) (rest := []) (lenOf pd_5 rfl) rfl (by show 2 * 0 + _ ≤ _; exact Nat.le_of_eq rfl) (hb hby at_143) (fun _ _ => ⟨rfl, rfl, (by decide : 1 + 0 ≤ _), (by decide : 10 + 0 ≤ _)⟩)
  dsimp only [Pt.U, Pt.locs, Pt.cells, Pt.slots] at X19 l19 y19 z19 st19 hQ19
  replace y19 : k19 = 1 := y19
  replace z19 : n19 = 10 := z19
  subst y19 z19
  obtain ⟨rfl, N19q, K19, Q19_0⟩ := hQ19
  have N19 : Fr n0 L19 := Eq.mpr (congrArg (Fr n0) l19) (Fr.app N18 N19q)
  have Z19 := Nat.le_trans Z18 K19.1
  have KK19 : Keep h0 T19.heap [] := KK18.trans K19 (allS (Or.inr sz_b15) all0)
  refine Go.step st19 ?_
  show Go p e below _ (T19.setTop (mkF m 146 _ [(.int (Int32.ofNat (putE (f2 p2 v3 (0 : Int32) (4 : Int32)) (0, 4) (putE (f2 p2 v3 (0 : Int32) (3 : Int32)) (0, 3) (putE (f2 p2 v3 (0 : Int32) (2 : Int32)) (0, 2) (putE (f2 p2 v3 (0 : Int32) (1 : Int32)) (0, 1) ([] : List (Nat × Nat)))))).length))]))
  refine Go.step (fun t k => XS.istore X19.here hx rfl (hb hby at_146) rfl (l' := #[.val (.int p1), .val (.int p2), .val (.int v3), .val (.int v14), .val (.ref b15), .val (.int (Int32.ofNat (putE (f2 p2 v3 (0 : Int32) (4 : Int32)) (0, 4) (putE (f2 p2 v3 (0 : Int32) (3 : Int32)) (0, 3) (putE (f2 p2 v3 (0 : Int32) (2 : Int32)) (0, 2) (putE (f2 p2 v3 (0 : Int32) (1 : Int32)) (0, 1) ([] : List (Nat × Nat)))))).length)), .unset]) rfl k) ?_
  show Go p e below _ (T19.setTop (mkF m 148 _ []))
  refine gB (q := 150) X19 hx (hb hby at_148) rfl rfl rfl ?_
  refine gJ (q := 152) X19 hx (hb hby at_150) rfl rfl ?_
  refine gI (q := 153) X19 hx (hb hby at_152) rfl rfl ?_
  refine gI (q := 154) X19 hx (hb hby at_153) rfl rfl ?_
  refine gC (q := 155) (v := 1) X19 hx (hb hby at_154) rfl rfl ?_
  refine gC (q := 156) (v := 2) X19 hx (hb hby at_155) rfl rfl ?_
  obtain ⟨_, _, ⟨T20, L20, k20, n20⟩, -, X20, ⟨Lc20, hQ20, l20, y20, z20⟩, st20⟩ := Jvm.LawKit.callS X19 hx (y := (⟨"com/example/hertzbid/hertzbid/ConflictPairsNeighboursPinLaw", "put", "([JIIIII)I"⟩ : MethodName)) hown (mvT hZ (hw _ (List.mem_of_getElem? (i := 9) rfl))) (mvT hZ (hw _ (List.mem_of_getElem? (i := 10) rfl))) (mvT hZ (hw _ (List.mem_of_getElem? (i := 3) rfl))) (mvT hZ (hw _ (List.mem_of_getElem? (i := 11) rfl))) (by decide) (backOf (W := 0) (rm3 l Z a0 hw [] b15 p2 v3 (1 : Int32) (2 : Int32) (EE p2 v3).length (putE (f2 p2 v3 (0 : Int32) (4 : Int32)) (0, 4) (putE (f2 p2 v3 (0 : Int32) (3 : Int32)) (0, 3) (putE (f2 p2 v3 (0 : Int32) (2 : Int32)) (0, 2) (putE (f2 p2 v3 (0 : Int32) (1 : Int32)) (0, 1) ([] : List (Nat × Nat)))))) (1, 2) T19.heap n0 Z19 (fun h => own_b4 p2 v3 h : ¬ ((f2 p2 v3 (1 : Int32) (2 : Int32)) = (0 : Int32)) → (putE (f2 p2 v3 (0 : Int32) (4 : Int32)) (0, 4) (putE (f2 p2 v3 (0 : Int32) (3 : Int32)) (0, 3) (putE (f2 p2 v3 (0 : Int32) (2 : Int32)) (0, 2) (putE (f2 p2 v3 (0 : Int32) (1 : Int32)) (0, 1) ([] : List (Nat × Nat)))))).length < (EE p2 v3).length) (own_l4 p2 v3 : (putE (f2 p2 v3 (0 : Int32) (4 : Int32)) (0, 4) (putE (f2 p2 v3 (0 : Int32) (3 : Int32)) (0, 3) (putE (f2 p2 v3 (0 : Int32) (2 : Int32)) (0, 2) (putE (f2 p2 v3 (0 : Int32) (1 : Int32)) (0, 1) ([] : List (Nat × Nat)))))).length < 2147483648) (by decide +kernel : (((1 : Int32).toInt64 <<< ((32 : Int32) &&& 0x3f).toInt64) ||| ((2 : Int32).toInt64)) = enc (1, 2)) Q19_0 g_b15) hZ (hw _ (List.mem_of_getElem? (i := 11) rfl)) (hw _ (List.mem_of_getElem? (i := 3) rfl)) (by decide) (by decide)) (g := (mkF m 156 #[.val (.int p1), .val (.int p2), .val (.int v3), .val (.int v14), .val (.ref b15), .val (.int (Int32.ofNat (putE (f2 p2 v3 (0 : Int32) (4 : Int32)) (0, 4) (putE (f2 p2 v3 (0 : Int32) (3 : Int32)) (0, 3) (putE (f2 p2 v3 (0 : Int32) (2 : Int32)) (0, 2) (putE (f2 p2 v3 (0 : Int32) (1 : Int32)) (0, 1) ([] : List (Nat × Nat)))))).length)), .unset] [(.int (2 : Int32)), (.int (1 : Int32)), (.int v3), (.int p2), (.int (Int32.ofNat (putE (f2 p2 v3 (0 : Int32) (4 : Int32)) (0, 4) (putE (f2 p2 v3 (0 : Int32) (3 : Int32)) (0, 3) (putE (f2 p2 v3 (0 : Int32) (2 : Int32)) (0, 2) (putE (f2 p2 v3 (0 : Int32) (1 : Int32)) (0, 1) ([] : List (Nat × Nat)))))).length)), (.ref b15)])) rfl (by rw [hml]; rfl) (argsL := [(.ref b15), (.int (Int32.ofNat (putE (f2 p2 v3 (0 : Int32) (4 : Int32)) (0, 4) (putE (f2 p2 v3 (0 : Int32) (3 : Int32)) (0, 3) (putE (f2 p2 v3 (0 : Int32) (2 : Int32)) (0, 2) (putE (f2 p2 v3 (0 : Int32) (1 : Int32)) (0, 1) ([] : List (Nat × Nat)))))).length)), (.int p2), (.int v3), (.int (1 : Int32)), (.int (2 : Int32))]) (rest := []) (lenOf pd_5 rfl) rfl (by show 2 * 0 + _ ≤ _; exact Nat.le_of_eq rfl) (hb hby at_156) (fun _ _ => ⟨rfl, rfl, (by decide : 1 + 0 ≤ _), (by decide : 10 + 0 ≤ _)⟩)
  dsimp only [Pt.U, Pt.locs, Pt.cells, Pt.slots] at X20 l20 y20 z20 st20 hQ20
  replace y20 : k20 = 1 := y20
  replace z20 : n20 = 10 := z20
  subst y20 z20
  obtain ⟨rfl, N20q, K20, Q20_0⟩ := hQ20
  have N20 : Fr n0 L20 := Eq.mpr (congrArg (Fr n0) l20) (Fr.app N19 N20q)
  have Z20 := Nat.le_trans Z19 K20.1
  have KK20 : Keep h0 T20.heap [] := KK19.trans K20 (allS (Or.inr sz_b15) all0)
  refine Go.step st20 ?_
  show Go p e below _ (T20.setTop (mkF m 159 _ [(.int (Int32.ofNat (putE (f2 p2 v3 (1 : Int32) (2 : Int32)) (1, 2) (putE (f2 p2 v3 (0 : Int32) (4 : Int32)) (0, 4) (putE (f2 p2 v3 (0 : Int32) (3 : Int32)) (0, 3) (putE (f2 p2 v3 (0 : Int32) (2 : Int32)) (0, 2) (putE (f2 p2 v3 (0 : Int32) (1 : Int32)) (0, 1) ([] : List (Nat × Nat))))))).length))]))
  refine Go.step (fun t k => XS.istore X20.here hx rfl (hb hby at_159) rfl (l' := #[.val (.int p1), .val (.int p2), .val (.int v3), .val (.int v14), .val (.ref b15), .val (.int (Int32.ofNat (putE (f2 p2 v3 (1 : Int32) (2 : Int32)) (1, 2) (putE (f2 p2 v3 (0 : Int32) (4 : Int32)) (0, 4) (putE (f2 p2 v3 (0 : Int32) (3 : Int32)) (0, 3) (putE (f2 p2 v3 (0 : Int32) (2 : Int32)) (0, 2) (putE (f2 p2 v3 (0 : Int32) (1 : Int32)) (0, 1) ([] : List (Nat × Nat))))))).length)), .unset]) rfl k) ?_
  show Go p e below _ (T20.setTop (mkF m 161 _ []))
  refine gB (q := 163) X20 hx (hb hby at_161) rfl rfl rfl ?_
  refine gJ (q := 165) X20 hx (hb hby at_163) rfl rfl ?_
  refine gI (q := 166) X20 hx (hb hby at_165) rfl rfl ?_
  refine gI (q := 167) X20 hx (hb hby at_166) rfl rfl ?_
  refine gC (q := 168) (v := 1) X20 hx (hb hby at_167) rfl rfl ?_
  refine gC (q := 169) (v := 3) X20 hx (hb hby at_168) rfl rfl ?_
  obtain ⟨_, _, ⟨T21, L21, k21, n21⟩, -, X21, ⟨Lc21, hQ21, l21, y21, z21⟩, st21⟩ := Jvm.LawKit.callS X20 hx (y := (⟨"com/example/hertzbid/hertzbid/ConflictPairsNeighboursPinLaw", "put", "([JIIIII)I"⟩ : MethodName)) hown (mvT hZ (hw _ (List.mem_of_getElem? (i := 9) rfl))) (mvT hZ (hw _ (List.mem_of_getElem? (i := 10) rfl))) (mvT hZ (hw _ (List.mem_of_getElem? (i := 3) rfl))) (mvT hZ (hw _ (List.mem_of_getElem? (i := 11) rfl))) (by decide) (backOf (W := 0) (rm3 l Z a0 hw [] b15 p2 v3 (1 : Int32) (3 : Int32) (EE p2 v3).length (putE (f2 p2 v3 (1 : Int32) (2 : Int32)) (1, 2) (putE (f2 p2 v3 (0 : Int32) (4 : Int32)) (0, 4) (putE (f2 p2 v3 (0 : Int32) (3 : Int32)) (0, 3) (putE (f2 p2 v3 (0 : Int32) (2 : Int32)) (0, 2) (putE (f2 p2 v3 (0 : Int32) (1 : Int32)) (0, 1) ([] : List (Nat × Nat))))))) (1, 3) T20.heap n0 Z20 (fun h => own_b5 p2 v3 h : ¬ ((f2 p2 v3 (1 : Int32) (3 : Int32)) = (0 : Int32)) → (putE (f2 p2 v3 (1 : Int32) (2 : Int32)) (1, 2) (putE (f2 p2 v3 (0 : Int32) (4 : Int32)) (0, 4) (putE (f2 p2 v3 (0 : Int32) (3 : Int32)) (0, 3) (putE (f2 p2 v3 (0 : Int32) (2 : Int32)) (0, 2) (putE (f2 p2 v3 (0 : Int32) (1 : Int32)) (0, 1) ([] : List (Nat × Nat))))))).length < (EE p2 v3).length) (own_l5 p2 v3 : (putE (f2 p2 v3 (1 : Int32) (2 : Int32)) (1, 2) (putE (f2 p2 v3 (0 : Int32) (4 : Int32)) (0, 4) (putE (f2 p2 v3 (0 : Int32) (3 : Int32)) (0, 3) (putE (f2 p2 v3 (0 : Int32) (2 : Int32)) (0, 2) (putE (f2 p2 v3 (0 : Int32) (1 : Int32)) (0, 1) ([] : List (Nat × Nat))))))).length < 2147483648) (by decide +kernel : (((1 : Int32).toInt64 <<< ((32 : Int32) &&& 0x3f).toInt64) ||| ((3 : Int32).toInt64)) = enc (1, 3)) Q20_0 g_b15) hZ (hw _ (List.mem_of_getElem? (i := 11) rfl)) (hw _ (List.mem_of_getElem? (i := 3) rfl)) (by decide) (by decide)) (g := (mkF m 169 #[.val (.int p1), .val (.int p2), .val (.int v3), .val (.int v14), .val (.ref b15), .val (.int (Int32.ofNat (putE (f2 p2 v3 (1 : Int32) (2 : Int32)) (1, 2) (putE (f2 p2 v3 (0 : Int32) (4 : Int32)) (0, 4) (putE (f2 p2 v3 (0 : Int32) (3 : Int32)) (0, 3) (putE (f2 p2 v3 (0 : Int32) (2 : Int32)) (0, 2) (putE (f2 p2 v3 (0 : Int32) (1 : Int32)) (0, 1) ([] : List (Nat × Nat))))))).length)), .unset] [(.int (3 : Int32)), (.int (1 : Int32)), (.int v3), (.int p2), (.int (Int32.ofNat (putE (f2 p2 v3 (1 : Int32) (2 : Int32)) (1, 2) (putE (f2 p2 v3 (0 : Int32) (4 : Int32)) (0, 4) (putE (f2 p2 v3 (0 : Int32) (3 : Int32)) (0, 3) (putE (f2 p2 v3 (0 : Int32) (2 : Int32)) (0, 2) (putE (f2 p2 v3 (0 : Int32) (1 : Int32)) (0, 1) ([] : List (Nat × Nat))))))).length)), (.ref b15)])) rfl (by rw [hml]; rfl) (argsL := [(.ref b15), (.int (Int32.ofNat (putE (f2 p2 v3 (1 : Int32) (2 : Int32)) (1, 2) (putE (f2 p2 v3 (0 : Int32) (4 : Int32)) (0, 4) (putE (f2 p2 v3 (0 : Int32) (3 : Int32)) (0, 3) (putE (f2 p2 v3 (0 : Int32) (2 : Int32)) (0, 2) (putE (f2 p2 v3 (0 : Int32) (1 : Int32)) (0, 1) ([] : List (Nat × Nat))))))).length)), (.int p2), (.int v3), (.int (1 : Int32)), (.int (3 : Int32))]) (rest := []) (lenOf pd_5 rfl) rfl (by show 2 * 0 + _ ≤ _; exact Nat.le_of_eq rfl) (hb hby at_169) (fun _ _ => ⟨rfl, rfl, (by decide : 1 + 0 ≤ _), (by decide : 10 + 0 ≤ _)⟩)
  dsimp only [Pt.U, Pt.locs, Pt.cells, Pt.slots] at X21 l21 y21 z21 st21 hQ21
  replace y21 : k21 = 1 := y21
  replace z21 : n21 = 10 := z21
  subst y21 z21
  obtain ⟨rfl, N21q, K21, Q21_0⟩ := hQ21
  have N21 : Fr n0 L21 := Eq.mpr (congrArg (Fr n0) l21) (Fr.app N20 N21q)
  have Z21 := Nat.le_trans Z20 K21.1
  have KK21 : Keep h0 T21.heap [] := KK20.trans K21 (allS (Or.inr sz_b15) all0)
  refine Go.step st21 ?_
  show Go p e below _ (T21.setTop (mkF m 172 _ [(.int (Int32.ofNat (putE (f2 p2 v3 (1 : Int32) (3 : Int32)) (1, 3) (putE (f2 p2 v3 (1 : Int32) (2 : Int32)) (1, 2) (putE (f2 p2 v3 (0 : Int32) (4 : Int32)) (0, 4) (putE (f2 p2 v3 (0 : Int32) (3 : Int32)) (0, 3) (putE (f2 p2 v3 (0 : Int32) (2 : Int32)) (0, 2) (putE (f2 p2 v3 (0 : Int32) (1 : Int32)) (0, 1) ([] : List (Nat × Nat)))))))).length))]))
  refine Go.step (fun t k => XS.istore X21.here hx rfl (hb hby at_172) rfl (l' := #[.val (.int p1), .val (.int p2), .val (.int v3), .val (.int v14), .val (.ref b15), .val (.int (Int32.ofNat (putE (f2 p2 v3 (1 : Int32) (3 : Int32)) (1, 3) (putE (f2 p2 v3 (1 : Int32) (2 : Int32)) (1, 2) (putE (f2 p2 v3 (0 : Int32) (4 : Int32)) (0, 4) (putE (f2 p2 v3 (0 : Int32) (3 : Int32)) (0, 3) (putE (f2 p2 v3 (0 : Int32) (2 : Int32)) (0, 2) (putE (f2 p2 v3 (0 : Int32) (1 : Int32)) (0, 1) ([] : List (Nat × Nat)))))))).length)), .unset]) rfl k) ?_
  show Go p e below _ (T21.setTop (mkF m 174 _ []))
  refine gB (q := 176) X21 hx (hb hby at_174) rfl rfl rfl ?_
  refine gJ (q := 178) X21 hx (hb hby at_176) rfl rfl ?_
  refine gI (q := 179) X21 hx (hb hby at_178) rfl rfl ?_
  refine gI (q := 180) X21 hx (hb hby at_179) rfl rfl ?_
  refine gC (q := 181) (v := 1) X21 hx (hb hby at_180) rfl rfl ?_
  refine gC (q := 182) (v := 4) X21 hx (hb hby at_181) rfl rfl ?_
  obtain ⟨_, _, ⟨T22, L22, k22, n22⟩, -, X22, ⟨Lc22, hQ22, l22, y22, z22⟩, st22⟩ := Jvm.LawKit.callS X21 hx (y := (⟨"com/example/hertzbid/hertzbid/ConflictPairsNeighboursPinLaw", "put", "([JIIIII)I"⟩ : MethodName)) hown (mvT hZ (hw _ (List.mem_of_getElem? (i := 9) rfl))) (mvT hZ (hw _ (List.mem_of_getElem? (i := 10) rfl))) (mvT hZ (hw _ (List.mem_of_getElem? (i := 3) rfl))) (mvT hZ (hw _ (List.mem_of_getElem? (i := 11) rfl))) (by decide) (backOf (W := 0) (rm3 l Z a0 hw [] b15 p2 v3 (1 : Int32) (4 : Int32) (EE p2 v3).length (putE (f2 p2 v3 (1 : Int32) (3 : Int32)) (1, 3) (putE (f2 p2 v3 (1 : Int32) (2 : Int32)) (1, 2) (putE (f2 p2 v3 (0 : Int32) (4 : Int32)) (0, 4) (putE (f2 p2 v3 (0 : Int32) (3 : Int32)) (0, 3) (putE (f2 p2 v3 (0 : Int32) (2 : Int32)) (0, 2) (putE (f2 p2 v3 (0 : Int32) (1 : Int32)) (0, 1) ([] : List (Nat × Nat)))))))) (1, 4) T21.heap n0 Z21 (fun h => own_b6 p2 v3 h : ¬ ((f2 p2 v3 (1 : Int32) (4 : Int32)) = (0 : Int32)) → (putE (f2 p2 v3 (1 : Int32) (3 : Int32)) (1, 3) (putE (f2 p2 v3 (1 : Int32) (2 : Int32)) (1, 2) (putE (f2 p2 v3 (0 : Int32) (4 : Int32)) (0, 4) (putE (f2 p2 v3 (0 : Int32) (3 : Int32)) (0, 3) (putE (f2 p2 v3 (0 : Int32) (2 : Int32)) (0, 2) (putE (f2 p2 v3 (0 : Int32) (1 : Int32)) (0, 1) ([] : List (Nat × Nat)))))))).length < (EE p2 v3).length) (own_l6 p2 v3 : (putE (f2 p2 v3 (1 : Int32) (3 : Int32)) (1, 3) (putE (f2 p2 v3 (1 : Int32) (2 : Int32)) (1, 2) (putE (f2 p2 v3 (0 : Int32) (4 : Int32)) (0, 4) (putE (f2 p2 v3 (0 : Int32) (3 : Int32)) (0, 3) (putE (f2 p2 v3 (0 : Int32) (2 : Int32)) (0, 2) (putE (f2 p2 v3 (0 : Int32) (1 : Int32)) (0, 1) ([] : List (Nat × Nat)))))))).length < 2147483648) (by decide +kernel : (((1 : Int32).toInt64 <<< ((32 : Int32) &&& 0x3f).toInt64) ||| ((4 : Int32).toInt64)) = enc (1, 4)) Q21_0 g_b15) hZ (hw _ (List.mem_of_getElem? (i := 11) rfl)) (hw _ (List.mem_of_getElem? (i := 3) rfl)) (by decide) (by decide)) (g := (mkF m 182 #[.val (.int p1), .val (.int p2), .val (.int v3), .val (.int v14), .val (.ref b15), .val (.int (Int32.ofNat (putE (f2 p2 v3 (1 : Int32) (3 : Int32)) (1, 3) (putE (f2 p2 v3 (1 : Int32) (2 : Int32)) (1, 2) (putE (f2 p2 v3 (0 : Int32) (4 : Int32)) (0, 4) (putE (f2 p2 v3 (0 : Int32) (3 : Int32)) (0, 3) (putE (f2 p2 v3 (0 : Int32) (2 : Int32)) (0, 2) (putE (f2 p2 v3 (0 : Int32) (1 : Int32)) (0, 1) ([] : List (Nat × Nat)))))))).length)), .unset] [(.int (4 : Int32)), (.int (1 : Int32)), (.int v3), (.int p2), (.int (Int32.ofNat (putE (f2 p2 v3 (1 : Int32) (3 : Int32)) (1, 3) (putE (f2 p2 v3 (1 : Int32) (2 : Int32)) (1, 2) (putE (f2 p2 v3 (0 : Int32) (4 : Int32)) (0, 4) (putE (f2 p2 v3 (0 : Int32) (3 : Int32)) (0, 3) (putE (f2 p2 v3 (0 : Int32) (2 : Int32)) (0, 2) (putE (f2 p2 v3 (0 : Int32) (1 : Int32)) (0, 1) ([] : List (Nat × Nat)))))))).length)), (.ref b15)])) rfl (by rw [hml]; rfl) (argsL := [(.ref b15), (.int (Int32.ofNat (putE (f2 p2 v3 (1 : Int32) (3 : Int32)) (1, 3) (putE (f2 p2 v3 (1 : Int32) (2 : Int32)) (1, 2) (putE (f2 p2 v3 (0 : Int32) (4 : Int32)) (0, 4) (putE (f2 p2 v3 (0 : Int32) (3 : Int32)) (0, 3) (putE (f2 p2 v3 (0 : Int32) (2 : Int32)) (0, 2) (putE (f2 p2 v3 (0 : Int32) (1 : Int32)) (0, 1) ([] : List (Nat × Nat)))))))).length)), (.int p2), (.int v3), (.int (1 : Int32)), (.int (4 : Int32))]) (rest := []) (lenOf pd_5 rfl) rfl (by show 2 * 0 + _ ≤ _; exact Nat.le_of_eq rfl) (hb hby at_182) (fun _ _ => ⟨rfl, rfl, (by decide : 1 + 0 ≤ _), (by decide : 10 + 0 ≤ _)⟩)
  dsimp only [Pt.U, Pt.locs, Pt.cells, Pt.slots] at X22 l22 y22 z22 st22 hQ22
  replace y22 : k22 = 1 := y22
  replace z22 : n22 = 10 := z22
  subst y22 z22
  obtain ⟨rfl, N22q, K22, Q22_0⟩ := hQ22
  have N22 : Fr n0 L22 := Eq.mpr (congrArg (Fr n0) l22) (Fr.app N21 N22q)
  have Z22 := Nat.le_trans Z21 K22.1
  have KK22 : Keep h0 T22.heap [] := KK21.trans K22 (allS (Or.inr sz_b15) all0)
  refine Go.step st22 ?_
  show Go p e below _ (T22.setTop (mkF m 185 _ [(.int (Int32.ofNat (putE (f2 p2 v3 (1 : Int32) (4 : Int32)) (1, 4) (putE (f2 p2 v3 (1 : Int32) (3 : Int32)) (1, 3) (putE (f2 p2 v3 (1 : Int32) (2 : Int32)) (1, 2) (putE (f2 p2 v3 (0 : Int32) (4 : Int32)) (0, 4) (putE (f2 p2 v3 (0 : Int32) (3 : Int32)) (0, 3) (putE (f2 p2 v3 (0 : Int32) (2 : Int32)) (0, 2) (putE (f2 p2 v3 (0 : Int32) (1 : Int32)) (0, 1) ([] : List (Nat × Nat))))))))).length))]))
  refine Go.step (fun t k => XS.istore X22.here hx rfl (hb hby at_185) rfl (l' := #[.val (.int p1), .val (.int p2), .val (.int v3), .val (.int v14), .val (.ref b15), .val (.int (Int32.ofNat (putE (f2 p2 v3 (1 : Int32) (4 : Int32)) (1, 4) (putE (f2 p2 v3 (1 : Int32) (3 : Int32)) (1, 3) (putE (f2 p2 v3 (1 : Int32) (2 : Int32)) (1, 2) (putE (f2 p2 v3 (0 : Int32) (4 : Int32)) (0, 4) (putE (f2 p2 v3 (0 : Int32) (3 : Int32)) (0, 3) (putE (f2 p2 v3 (0 : Int32) (2 : Int32)) (0, 2) (putE (f2 p2 v3 (0 : Int32) (1 : Int32)) (0, 1) ([] : List (Nat × Nat))))))))).length)), .unset]) rfl k) ?_
  show Go p e below _ (T22.setTop (mkF m 187 _ []))
  refine gB (q := 189) X22 hx (hb hby at_187) rfl rfl rfl ?_
  refine gJ (q := 191) X22 hx (hb hby at_189) rfl rfl ?_
  refine gI (q := 192) X22 hx (hb hby at_191) rfl rfl ?_
  refine gI (q := 193) X22 hx (hb hby at_192) rfl rfl ?_
  refine gC (q := 194) (v := 2) X22 hx (hb hby at_193) rfl rfl ?_
  refine gC (q := 195) (v := 3) X22 hx (hb hby at_194) rfl rfl ?_
  obtain ⟨_, _, ⟨T23, L23, k23, n23⟩, -, X23, ⟨Lc23, hQ23, l23, y23, z23⟩, st23⟩ := Jvm.LawKit.callS X22 hx (y := (⟨"com/example/hertzbid/hertzbid/ConflictPairsNeighboursPinLaw", "put", "([JIIIII)I"⟩ : MethodName)) hown (mvT hZ (hw _ (List.mem_of_getElem? (i := 9) rfl))) (mvT hZ (hw _ (List.mem_of_getElem? (i := 10) rfl))) (mvT hZ (hw _ (List.mem_of_getElem? (i := 3) rfl))) (mvT hZ (hw _ (List.mem_of_getElem? (i := 11) rfl))) (by decide) (backOf (W := 0) (rm3 l Z a0 hw [] b15 p2 v3 (2 : Int32) (3 : Int32) (EE p2 v3).length (putE (f2 p2 v3 (1 : Int32) (4 : Int32)) (1, 4) (putE (f2 p2 v3 (1 : Int32) (3 : Int32)) (1, 3) (putE (f2 p2 v3 (1 : Int32) (2 : Int32)) (1, 2) (putE (f2 p2 v3 (0 : Int32) (4 : Int32)) (0, 4) (putE (f2 p2 v3 (0 : Int32) (3 : Int32)) (0, 3) (putE (f2 p2 v3 (0 : Int32) (2 : Int32)) (0, 2) (putE (f2 p2 v3 (0 : Int32) (1 : Int32)) (0, 1) ([] : List (Nat × Nat))))))))) (2, 3) T22.heap n0 Z22 (fun h => own_b7 p2 v3 h : ¬ ((f2 p2 v3 (2 : Int32) (3 : Int32)) = (0 : Int32)) → (putE (f2 p2 v3 (1 : Int32) (4 : Int32)) (1, 4) (putE (f2 p2 v3 (1 : Int32) (3 : Int32)) (1, 3) (putE (f2 p2 v3 (1 : Int32) (2 : Int32)) (1, 2) (putE (f2 p2 v3 (0 : Int32) (4 : Int32)) (0, 4) (putE (f2 p2 v3 (0 : Int32) (3 : Int32)) (0, 3) (putE (f2 p2 v3 (0 : Int32) (2 : Int32)) (0, 2) (putE (f2 p2 v3 (0 : Int32) (1 : Int32)) (0, 1) ([] : List (Nat × Nat))))))))).length < (EE p2 v3).length) (own_l7 p2 v3 : (putE (f2 p2 v3 (1 : Int32) (4 : Int32)) (1, 4) (putE (f2 p2 v3 (1 : Int32) (3 : Int32)) (1, 3) (putE (f2 p2 v3 (1 : Int32) (2 : Int32)) (1, 2) (putE (f2 p2 v3 (0 : Int32) (4 : Int32)) (0, 4) (putE (f2 p2 v3 (0 : Int32) (3 : Int32)) (0, 3) (putE (f2 p2 v3 (0 : Int32) (2 : Int32)) (0, 2) (putE (f2 p2 v3 (0 : Int32) (1 : Int32)) (0, 1) ([] : List (Nat × Nat))))))))).length < 2147483648) (by decide +kernel : (((2 : Int32).toInt64 <<< ((32 : Int32) &&& 0x3f).toInt64) ||| ((3 : Int32).toInt64)) = enc (2, 3)) Q22_0 g_b15) hZ (hw _ (List.mem_of_getElem? (i := 11) rfl)) (hw _ (List.mem_of_getElem? (i := 3) rfl)) (by decide) (by decide)) (g := (mkF m 195 #[.val (.int p1), .val (.int p2), .val (.int v3), .val (.int v14), .val (.ref b15), .val (.int (Int32.ofNat (putE (f2 p2 v3 (1 : Int32) (4 : Int32)) (1, 4) (putE (f2 p2 v3 (1 : Int32) (3 : Int32)) (1, 3) (putE (f2 p2 v3 (1 : Int32) (2 : Int32)) (1, 2) (putE (f2 p2 v3 (0 : Int32) (4 : Int32)) (0, 4) (putE (f2 p2 v3 (0 : Int32) (3 : Int32)) (0, 3) (putE (f2 p2 v3 (0 : Int32) (2 : Int32)) (0, 2) (putE (f2 p2 v3 (0 : Int32) (1 : Int32)) (0, 1) ([] : List (Nat × Nat))))))))).length)), .unset] [(.int (3 : Int32)), (.int (2 : Int32)), (.int v3), (.int p2), (.int (Int32.ofNat (putE (f2 p2 v3 (1 : Int32) (4 : Int32)) (1, 4) (putE (f2 p2 v3 (1 : Int32) (3 : Int32)) (1, 3) (putE (f2 p2 v3 (1 : Int32) (2 : Int32)) (1, 2) (putE (f2 p2 v3 (0 : Int32) (4 : Int32)) (0, 4) (putE (f2 p2 v3 (0 : Int32) (3 : Int32)) (0, 3) (putE (f2 p2 v3 (0 : Int32) (2 : Int32)) (0, 2) (putE (f2 p2 v3 (0 : Int32) (1 : Int32)) (0, 1) ([] : List (Nat × Nat))))))))).length)), (.ref b15)])) rfl (by rw [hml]; rfl) (argsL := [(.ref b15), (.int (Int32.ofNat (putE (f2 p2 v3 (1 : Int32) (4 : Int32)) (1, 4) (putE (f2 p2 v3 (1 : Int32) (3 : Int32)) (1, 3) (putE (f2 p2 v3 (1 : Int32) (2 : Int32)) (1, 2) (putE (f2 p2 v3 (0 : Int32) (4 : Int32)) (0, 4) (putE (f2 p2 v3 (0 : Int32) (3 : Int32)) (0, 3) (putE (f2 p2 v3 (0 : Int32) (2 : Int32)) (0, 2) (putE (f2 p2 v3 (0 : Int32) (1 : Int32)) (0, 1) ([] : List (Nat × Nat))))))))).length)), (.int p2), (.int v3), (.int (2 : Int32)), (.int (3 : Int32))]) (rest := []) (lenOf pd_5 rfl) rfl (by show 2 * 0 + _ ≤ _; exact Nat.le_of_eq rfl) (hb hby at_195) (fun _ _ => ⟨rfl, rfl, (by decide : 1 + 0 ≤ _), (by decide : 10 + 0 ≤ _)⟩)
  dsimp only [Pt.U, Pt.locs, Pt.cells, Pt.slots] at X23 l23 y23 z23 st23 hQ23
  replace y23 : k23 = 1 := y23
  replace z23 : n23 = 10 := z23
  subst y23 z23
  obtain ⟨rfl, N23q, K23, Q23_0⟩ := hQ23
  have N23 : Fr n0 L23 := Eq.mpr (congrArg (Fr n0) l23) (Fr.app N22 N23q)
  have Z23 := Nat.le_trans Z22 K23.1
  have KK23 : Keep h0 T23.heap [] := KK22.trans K23 (allS (Or.inr sz_b15) all0)
  refine Go.step st23 ?_
  show Go p e below _ (T23.setTop (mkF m 198 _ [(.int (Int32.ofNat (putE (f2 p2 v3 (2 : Int32) (3 : Int32)) (2, 3) (putE (f2 p2 v3 (1 : Int32) (4 : Int32)) (1, 4) (putE (f2 p2 v3 (1 : Int32) (3 : Int32)) (1, 3) (putE (f2 p2 v3 (1 : Int32) (2 : Int32)) (1, 2) (putE (f2 p2 v3 (0 : Int32) (4 : Int32)) (0, 4) (putE (f2 p2 v3 (0 : Int32) (3 : Int32)) (0, 3) (putE (f2 p2 v3 (0 : Int32) (2 : Int32)) (0, 2) (putE (f2 p2 v3 (0 : Int32) (1 : Int32)) (0, 1) ([] : List (Nat × Nat)))))))))).length))]))
  refine Go.step (fun t k => XS.istore X23.here hx rfl (hb hby at_198) rfl (l' := #[.val (.int p1), .val (.int p2), .val (.int v3), .val (.int v14), .val (.ref b15), .val (.int (Int32.ofNat (putE (f2 p2 v3 (2 : Int32) (3 : Int32)) (2, 3) (putE (f2 p2 v3 (1 : Int32) (4 : Int32)) (1, 4) (putE (f2 p2 v3 (1 : Int32) (3 : Int32)) (1, 3) (putE (f2 p2 v3 (1 : Int32) (2 : Int32)) (1, 2) (putE (f2 p2 v3 (0 : Int32) (4 : Int32)) (0, 4) (putE (f2 p2 v3 (0 : Int32) (3 : Int32)) (0, 3) (putE (f2 p2 v3 (0 : Int32) (2 : Int32)) (0, 2) (putE (f2 p2 v3 (0 : Int32) (1 : Int32)) (0, 1) ([] : List (Nat × Nat)))))))))).length)), .unset]) rfl k) ?_
  show Go p e below _ (T23.setTop (mkF m 200 _ []))
  refine gB (q := 202) X23 hx (hb hby at_200) rfl rfl rfl ?_
  refine gJ (q := 204) X23 hx (hb hby at_202) rfl rfl ?_
  refine gI (q := 205) X23 hx (hb hby at_204) rfl rfl ?_
  refine gI (q := 206) X23 hx (hb hby at_205) rfl rfl ?_
  refine gC (q := 207) (v := 2) X23 hx (hb hby at_206) rfl rfl ?_
  refine gC (q := 208) (v := 4) X23 hx (hb hby at_207) rfl rfl ?_
  obtain ⟨_, _, ⟨T24, L24, k24, n24⟩, -, X24, ⟨Lc24, hQ24, l24, y24, z24⟩, st24⟩ := Jvm.LawKit.callS X23 hx (y := (⟨"com/example/hertzbid/hertzbid/ConflictPairsNeighboursPinLaw", "put", "([JIIIII)I"⟩ : MethodName)) hown (mvT hZ (hw _ (List.mem_of_getElem? (i := 9) rfl))) (mvT hZ (hw _ (List.mem_of_getElem? (i := 10) rfl))) (mvT hZ (hw _ (List.mem_of_getElem? (i := 3) rfl))) (mvT hZ (hw _ (List.mem_of_getElem? (i := 11) rfl))) (by decide) (backOf (W := 0) (rm3 l Z a0 hw [] b15 p2 v3 (2 : Int32) (4 : Int32) (EE p2 v3).length (putE (f2 p2 v3 (2 : Int32) (3 : Int32)) (2, 3) (putE (f2 p2 v3 (1 : Int32) (4 : Int32)) (1, 4) (putE (f2 p2 v3 (1 : Int32) (3 : Int32)) (1, 3) (putE (f2 p2 v3 (1 : Int32) (2 : Int32)) (1, 2) (putE (f2 p2 v3 (0 : Int32) (4 : Int32)) (0, 4) (putE (f2 p2 v3 (0 : Int32) (3 : Int32)) (0, 3) (putE (f2 p2 v3 (0 : Int32) (2 : Int32)) (0, 2) (putE (f2 p2 v3 (0 : Int32) (1 : Int32)) (0, 1) ([] : List (Nat × Nat)))))))))) (2, 4) T23.heap n0 Z23 (fun h => own_b8 p2 v3 h : ¬ ((f2 p2 v3 (2 : Int32) (4 : Int32)) = (0 : Int32)) → (putE (f2 p2 v3 (2 : Int32) (3 : Int32)) (2, 3) (putE (f2 p2 v3 (1 : Int32) (4 : Int32)) (1, 4) (putE (f2 p2 v3 (1 : Int32) (3 : Int32)) (1, 3) (putE (f2 p2 v3 (1 : Int32) (2 : Int32)) (1, 2) (putE (f2 p2 v3 (0 : Int32) (4 : Int32)) (0, 4) (putE (f2 p2 v3 (0 : Int32) (3 : Int32)) (0, 3) (putE (f2 p2 v3 (0 : Int32) (2 : Int32)) (0, 2) (putE (f2 p2 v3 (0 : Int32) (1 : Int32)) (0, 1) ([] : List (Nat × Nat)))))))))).length < (EE p2 v3).length) (own_l8 p2 v3 : (putE (f2 p2 v3 (2 : Int32) (3 : Int32)) (2, 3) (putE (f2 p2 v3 (1 : Int32) (4 : Int32)) (1, 4) (putE (f2 p2 v3 (1 : Int32) (3 : Int32)) (1, 3) (putE (f2 p2 v3 (1 : Int32) (2 : Int32)) (1, 2) (putE (f2 p2 v3 (0 : Int32) (4 : Int32)) (0, 4) (putE (f2 p2 v3 (0 : Int32) (3 : Int32)) (0, 3) (putE (f2 p2 v3 (0 : Int32) (2 : Int32)) (0, 2) (putE (f2 p2 v3 (0 : Int32) (1 : Int32)) (0, 1) ([] : List (Nat × Nat)))))))))).length < 2147483648) (by decide +kernel : (((2 : Int32).toInt64 <<< ((32 : Int32) &&& 0x3f).toInt64) ||| ((4 : Int32).toInt64)) = enc (2, 4)) Q23_0 g_b15) hZ (hw _ (List.mem_of_getElem? (i := 11) rfl)) (hw _ (List.mem_of_getElem? (i := 3) rfl)) (by decide) (by decide)) (g := (mkF m 208 #[.val (.int p1), .val (.int p2), .val (.int v3), .val (.int v14), .val (.ref b15), .val (.int (Int32.ofNat (putE (f2 p2 v3 (2 : Int32) (3 : Int32)) (2, 3) (putE (f2 p2 v3 (1 : Int32) (4 : Int32)) (1, 4) (putE (f2 p2 v3 (1 : Int32) (3 : Int32)) (1, 3) (putE (f2 p2 v3 (1 : Int32) (2 : Int32)) (1, 2) (putE (f2 p2 v3 (0 : Int32) (4 : Int32)) (0, 4) (putE (f2 p2 v3 (0 : Int32) (3 : Int32)) (0, 3) (putE (f2 p2 v3 (0 : Int32) (2 : Int32)) (0, 2) (putE (f2 p2 v3 (0 : Int32) (1 : Int32)) (0, 1) ([] : List (Nat × Nat)))))))))).length)), .unset] [(.int (4 : Int32)), (.int (2 : Int32)), (.int v3), (.int p2), (.int (Int32.ofNat (putE (f2 p2 v3 (2 : Int32) (3 : Int32)) (2, 3) (putE (f2 p2 v3 (1 : Int32) (4 : Int32)) (1, 4) (putE (f2 p2 v3 (1 : Int32) (3 : Int32)) (1, 3) (putE (f2 p2 v3 (1 : Int32) (2 : Int32)) (1, 2) (putE (f2 p2 v3 (0 : Int32) (4 : Int32)) (0, 4) (putE (f2 p2 v3 (0 : Int32) (3 : Int32)) (0, 3) (putE (f2 p2 v3 (0 : Int32) (2 : Int32)) (0, 2) (putE (f2 p2 v3 (0 : Int32) (1 : Int32)) (0, 1) ([] : List (Nat × Nat)))))))))).length)), (.ref b15)])) rfl (by rw [hml]; rfl) (argsL := [(.ref b15), (.int (Int32.ofNat (putE (f2 p2 v3 (2 : Int32) (3 : Int32)) (2, 3) (putE (f2 p2 v3 (1 : Int32) (4 : Int32)) (1, 4) (putE (f2 p2 v3 (1 : Int32) (3 : Int32)) (1, 3) (putE (f2 p2 v3 (1 : Int32) (2 : Int32)) (1, 2) (putE (f2 p2 v3 (0 : Int32) (4 : Int32)) (0, 4) (putE (f2 p2 v3 (0 : Int32) (3 : Int32)) (0, 3) (putE (f2 p2 v3 (0 : Int32) (2 : Int32)) (0, 2) (putE (f2 p2 v3 (0 : Int32) (1 : Int32)) (0, 1) ([] : List (Nat × Nat)))))))))).length)), (.int p2), (.int v3), (.int (2 : Int32)), (.int (4 : Int32))]) (rest := []) (lenOf pd_5 rfl) rfl (by show 2 * 0 + _ ≤ _; exact Nat.le_of_eq rfl) (hb hby at_208) (fun _ _ => ⟨rfl, rfl, (by decide : 1 + 0 ≤ _), (by decide : 10 + 0 ≤ _)⟩)
  dsimp only [Pt.U, Pt.locs, Pt.cells, Pt.slots] at X24 l24 y24 z24 st24 hQ24
  replace y24 : k24 = 1 := y24
  replace z24 : n24 = 10 := z24
  subst y24 z24
  obtain ⟨rfl, N24q, K24, Q24_0⟩ := hQ24
  have N24 : Fr n0 L24 := Eq.mpr (congrArg (Fr n0) l24) (Fr.app N23 N24q)
  have Z24 := Nat.le_trans Z23 K24.1
  have KK24 : Keep h0 T24.heap [] := KK23.trans K24 (allS (Or.inr sz_b15) all0)
  refine Go.step st24 ?_
  show Go p e below _ (T24.setTop (mkF m 211 _ [(.int (Int32.ofNat (putE (f2 p2 v3 (2 : Int32) (4 : Int32)) (2, 4) (putE (f2 p2 v3 (2 : Int32) (3 : Int32)) (2, 3) (putE (f2 p2 v3 (1 : Int32) (4 : Int32)) (1, 4) (putE (f2 p2 v3 (1 : Int32) (3 : Int32)) (1, 3) (putE (f2 p2 v3 (1 : Int32) (2 : Int32)) (1, 2) (putE (f2 p2 v3 (0 : Int32) (4 : Int32)) (0, 4) (putE (f2 p2 v3 (0 : Int32) (3 : Int32)) (0, 3) (putE (f2 p2 v3 (0 : Int32) (2 : Int32)) (0, 2) (putE (f2 p2 v3 (0 : Int32) (1 : Int32)) (0, 1) ([] : List (Nat × Nat))))))))))).length))]))
  refine Go.step (fun t k => XS.istore X24.here hx rfl (hb hby at_211) rfl (l' := #[.val (.int p1), .val (.int p2), .val (.int v3), .val (.int v14), .val (.ref b15), .val (.int (Int32.ofNat (putE (f2 p2 v3 (2 : Int32) (4 : Int32)) (2, 4) (putE (f2 p2 v3 (2 : Int32) (3 : Int32)) (2, 3) (putE (f2 p2 v3 (1 : Int32) (4 : Int32)) (1, 4) (putE (f2 p2 v3 (1 : Int32) (3 : Int32)) (1, 3) (putE (f2 p2 v3 (1 : Int32) (2 : Int32)) (1, 2) (putE (f2 p2 v3 (0 : Int32) (4 : Int32)) (0, 4) (putE (f2 p2 v3 (0 : Int32) (3 : Int32)) (0, 3) (putE (f2 p2 v3 (0 : Int32) (2 : Int32)) (0, 2) (putE (f2 p2 v3 (0 : Int32) (1 : Int32)) (0, 1) ([] : List (Nat × Nat))))))))))).length)), .unset]) rfl k) ?_
  show Go p e below _ (T24.setTop (mkF m 213 _ []))
  refine gB (q := 215) X24 hx (hb hby at_213) rfl rfl rfl ?_
  refine gJ (q := 217) X24 hx (hb hby at_215) rfl rfl ?_
  refine gI (q := 218) X24 hx (hb hby at_217) rfl rfl ?_
  refine gI (q := 219) X24 hx (hb hby at_218) rfl rfl ?_
  refine gC (q := 220) (v := 3) X24 hx (hb hby at_219) rfl rfl ?_
  refine gC (q := 221) (v := 4) X24 hx (hb hby at_220) rfl rfl ?_
  obtain ⟨_, _, ⟨T25, L25, k25, n25⟩, -, X25, ⟨Lc25, hQ25, l25, y25, z25⟩, st25⟩ := Jvm.LawKit.callS X24 hx (y := (⟨"com/example/hertzbid/hertzbid/ConflictPairsNeighboursPinLaw", "put", "([JIIIII)I"⟩ : MethodName)) hown (mvT hZ (hw _ (List.mem_of_getElem? (i := 9) rfl))) (mvT hZ (hw _ (List.mem_of_getElem? (i := 10) rfl))) (mvT hZ (hw _ (List.mem_of_getElem? (i := 3) rfl))) (mvT hZ (hw _ (List.mem_of_getElem? (i := 11) rfl))) (by decide) (backOf (W := 0) (rm3 l Z a0 hw [] b15 p2 v3 (3 : Int32) (4 : Int32) (EE p2 v3).length (putE (f2 p2 v3 (2 : Int32) (4 : Int32)) (2, 4) (putE (f2 p2 v3 (2 : Int32) (3 : Int32)) (2, 3) (putE (f2 p2 v3 (1 : Int32) (4 : Int32)) (1, 4) (putE (f2 p2 v3 (1 : Int32) (3 : Int32)) (1, 3) (putE (f2 p2 v3 (1 : Int32) (2 : Int32)) (1, 2) (putE (f2 p2 v3 (0 : Int32) (4 : Int32)) (0, 4) (putE (f2 p2 v3 (0 : Int32) (3 : Int32)) (0, 3) (putE (f2 p2 v3 (0 : Int32) (2 : Int32)) (0, 2) (putE (f2 p2 v3 (0 : Int32) (1 : Int32)) (0, 1) ([] : List (Nat × Nat))))))))))) (3, 4) T24.heap n0 Z24 (fun h => own_b9 p2 v3 h : ¬ ((f2 p2 v3 (3 : Int32) (4 : Int32)) = (0 : Int32)) → (putE (f2 p2 v3 (2 : Int32) (4 : Int32)) (2, 4) (putE (f2 p2 v3 (2 : Int32) (3 : Int32)) (2, 3) (putE (f2 p2 v3 (1 : Int32) (4 : Int32)) (1, 4) (putE (f2 p2 v3 (1 : Int32) (3 : Int32)) (1, 3) (putE (f2 p2 v3 (1 : Int32) (2 : Int32)) (1, 2) (putE (f2 p2 v3 (0 : Int32) (4 : Int32)) (0, 4) (putE (f2 p2 v3 (0 : Int32) (3 : Int32)) (0, 3) (putE (f2 p2 v3 (0 : Int32) (2 : Int32)) (0, 2) (putE (f2 p2 v3 (0 : Int32) (1 : Int32)) (0, 1) ([] : List (Nat × Nat))))))))))).length < (EE p2 v3).length) (own_l9 p2 v3 : (putE (f2 p2 v3 (2 : Int32) (4 : Int32)) (2, 4) (putE (f2 p2 v3 (2 : Int32) (3 : Int32)) (2, 3) (putE (f2 p2 v3 (1 : Int32) (4 : Int32)) (1, 4) (putE (f2 p2 v3 (1 : Int32) (3 : Int32)) (1, 3) (putE (f2 p2 v3 (1 : Int32) (2 : Int32)) (1, 2) (putE (f2 p2 v3 (0 : Int32) (4 : Int32)) (0, 4) (putE (f2 p2 v3 (0 : Int32) (3 : Int32)) (0, 3) (putE (f2 p2 v3 (0 : Int32) (2 : Int32)) (0, 2) (putE (f2 p2 v3 (0 : Int32) (1 : Int32)) (0, 1) ([] : List (Nat × Nat))))))))))).length < 2147483648) (by decide +kernel : (((3 : Int32).toInt64 <<< ((32 : Int32) &&& 0x3f).toInt64) ||| ((4 : Int32).toInt64)) = enc (3, 4)) Q24_0 g_b15) hZ (hw _ (List.mem_of_getElem? (i := 11) rfl)) (hw _ (List.mem_of_getElem? (i := 3) rfl)) (by decide) (by decide)) (g := (mkF m 221 #[.val (.int p1), .val (.int p2), .val (.int v3), .val (.int v14), .val (.ref b15), .val (.int (Int32.ofNat (putE (f2 p2 v3 (2 : Int32) (4 : Int32)) (2, 4) (putE (f2 p2 v3 (2 : Int32) (3 : Int32)) (2, 3) (putE (f2 p2 v3 (1 : Int32) (4 : Int32)) (1, 4) (putE (f2 p2 v3 (1 : Int32) (3 : Int32)) (1, 3) (putE (f2 p2 v3 (1 : Int32) (2 : Int32)) (1, 2) (putE (f2 p2 v3 (0 : Int32) (4 : Int32)) (0, 4) (putE (f2 p2 v3 (0 : Int32) (3 : Int32)) (0, 3) (putE (f2 p2 v3 (0 : Int32) (2 : Int32)) (0, 2) (putE (f2 p2 v3 (0 : Int32) (1 : Int32)) (0, 1) ([] : List (Nat × Nat))))))))))).length)), .unset] [(.int (4 : Int32)), (.int (3 : Int32)), (.int v3), (.int p2), (.int (Int32.ofNat (putE (f2 p2 v3 (2 : Int32) (4 : Int32)) (2, 4) (putE (f2 p2 v3 (2 : Int32) (3 : Int32)) (2, 3) (putE (f2 p2 v3 (1 : Int32) (4 : Int32)) (1, 4) (putE (f2 p2 v3 (1 : Int32) (3 : Int32)) (1, 3) (putE (f2 p2 v3 (1 : Int32) (2 : Int32)) (1, 2) (putE (f2 p2 v3 (0 : Int32) (4 : Int32)) (0, 4) (putE (f2 p2 v3 (0 : Int32) (3 : Int32)) (0, 3) (putE (f2 p2 v3 (0 : Int32) (2 : Int32)) (0, 2) (putE (f2 p2 v3 (0 : Int32) (1 : Int32)) (0, 1) ([] : List (Nat × Nat))))))))))).length)), (.ref b15)])) rfl (by rw [hml]; rfl) (argsL := [(.ref b15), (.int (Int32.ofNat (putE (f2 p2 v3 (2 : Int32) (4 : Int32)) (2, 4) (putE (f2 p2 v3 (2 : Int32) (3 : Int32)) (2, 3) (putE (f2 p2 v3 (1 : Int32) (4 : Int32)) (1, 4) (putE (f2 p2 v3 (1 : Int32) (3 : Int32)) (1, 3) (putE (f2 p2 v3 (1 : Int32) (2 : Int32)) (1, 2) (putE (f2 p2 v3 (0 : Int32) (4 : Int32)) (0, 4) (putE (f2 p2 v3 (0 : Int32) (3 : Int32)) (0, 3) (putE (f2 p2 v3 (0 : Int32) (2 : Int32)) (0, 2) (putE (f2 p2 v3 (0 : Int32) (1 : Int32)) (0, 1) ([] : List (Nat × Nat))))))))))).length)), (.int p2), (.int v3), (.int (3 : Int32)), (.int (4 : Int32))]) (rest := []) (lenOf pd_5 rfl) rfl (by show 2 * 0 + _ ≤ _; exact Nat.le_of_eq rfl) (hb hby at_221) (fun _ _ => ⟨rfl, rfl, (by decide : 1 + 0 ≤ _), (by decide : 10 + 0 ≤ _)⟩)
  dsimp only [Pt.U, Pt.locs, Pt.cells, Pt.slots] at X25 l25 y25 z25 st25 hQ25
  replace y25 : k25 = 1 := y25
  replace z25 : n25 = 10 := z25
  subst y25 z25
  obtain ⟨rfl, N25q, K25, Q25_0⟩ := hQ25
  have N25 : Fr n0 L25 := Eq.mpr (congrArg (Fr n0) l25) (Fr.app N24 N25q)
  have Z25 := Nat.le_trans Z24 K25.1
  have KK25 : Keep h0 T25.heap [] := KK24.trans K25 (allS (Or.inr sz_b15) all0)
  refine Go.step st25 ?_
  show Go p e below _ (T25.setTop (mkF m 224 _ [(.int (Int32.ofNat (putE (f2 p2 v3 (3 : Int32) (4 : Int32)) (3, 4) (putE (f2 p2 v3 (2 : Int32) (4 : Int32)) (2, 4) (putE (f2 p2 v3 (2 : Int32) (3 : Int32)) (2, 3) (putE (f2 p2 v3 (1 : Int32) (4 : Int32)) (1, 4) (putE (f2 p2 v3 (1 : Int32) (3 : Int32)) (1, 3) (putE (f2 p2 v3 (1 : Int32) (2 : Int32)) (1, 2) (putE (f2 p2 v3 (0 : Int32) (4 : Int32)) (0, 4) (putE (f2 p2 v3 (0 : Int32) (3 : Int32)) (0, 3) (putE (f2 p2 v3 (0 : Int32) (2 : Int32)) (0, 2) (putE (f2 p2 v3 (0 : Int32) (1 : Int32)) (0, 1) ([] : List (Nat × Nat)))))))))))).length))]))
  refine Go.step (fun t k => XS.istore X25.here hx rfl (hb hby at_224) rfl (l' := #[.val (.int p1), .val (.int p2), .val (.int v3), .val (.int v14), .val (.ref b15), .val (.int (Int32.ofNat (putE (f2 p2 v3 (3 : Int32) (4 : Int32)) (3, 4) (putE (f2 p2 v3 (2 : Int32) (4 : Int32)) (2, 4) (putE (f2 p2 v3 (2 : Int32) (3 : Int32)) (2, 3) (putE (f2 p2 v3 (1 : Int32) (4 : Int32)) (1, 4) (putE (f2 p2 v3 (1 : Int32) (3 : Int32)) (1, 3) (putE (f2 p2 v3 (1 : Int32) (2 : Int32)) (1, 2) (putE (f2 p2 v3 (0 : Int32) (4 : Int32)) (0, 4) (putE (f2 p2 v3 (0 : Int32) (3 : Int32)) (0, 3) (putE (f2 p2 v3 (0 : Int32) (2 : Int32)) (0, 2) (putE (f2 p2 v3 (0 : Int32) (1 : Int32)) (0, 1) ([] : List (Nat × Nat)))))))))))).length)), .unset]) rfl k) ?_
  show Go p e below _ (T25.setTop (mkF m 226 _ []))
  refine nameIt (fun zz : Int32 => Go p e below _ (T25.setTop (mkF m 226 #[.val (.int p1), .val (.int p2), .val (.int v3), .val (.int v14), .val (.ref b15), .val (.int zz), .unset] []))) (Int32.ofNat (putE (f2 p2 v3 (3 : Int32) (4 : Int32)) (3, 4) (putE (f2 p2 v3 (2 : Int32) (4 : Int32)) (2, 4) (putE (f2 p2 v3 (2 : Int32) (3 : Int32)) (2, 3) (putE (f2 p2 v3 (1 : Int32) (4 : Int32)) (1, 4) (putE (f2 p2 v3 (1 : Int32) (3 : Int32)) (1, 3) (putE (f2 p2 v3 (1 : Int32) (2 : Int32)) (1, 2) (putE (f2 p2 v3 (0 : Int32) (4 : Int32)) (0, 4) (putE (f2 p2 v3 (0 : Int32) (3 : Int32)) (0, 3) (putE (f2 p2 v3 (0 : Int32) (2 : Int32)) (0, 2) (putE (f2 p2 v3 (0 : Int32) (1 : Int32)) (0, 1) ([] : List (Nat × Nat)))))))))))).length) ?_
  intro v26 hv26
  clear hv26
  by_cases hc27 : v3 = (0 : Int32)
  · rw [hc27]
    show Go p e below _ (T25.setTop (mkF m 226 _ []))
    refine gI (q := 227) X25 hx (hb hby at_226) rfl rfl ?_
    refine gB (q := 229) X25 hx (hb hby at_227) rfl rfl rfl ?_
    obtain ⟨_, _, ⟨T28, L28, k28, n28⟩, -, X28, ⟨Lc28, hQ28, l28, y28, z28⟩, st28⟩ := Jvm.LawKit.callS X25 hx (y := (⟨"com/example/hertzbid/hertzbid/ConflictPairs", "neighbours", "(I[J)[[I"⟩ : MethodName)) hown (mvT hZ (hw _ (List.mem_of_getElem? (i := 12) rfl))) (mvT hZ (hw _ (List.mem_of_getElem? (i := 13) rfl))) (mvT hZ (hw _ (List.mem_of_getElem? (i := 14) rfl))) (mvT hZ (hw _ (List.mem_of_getElem? (i := 15) rfl))) (by decide) (backOf (W := 0) (rm4_0 l Z a0 hw [] b15 (EE p2 v3) T25.heap n0 Z25 (own_10 p2 v3 : (EE p2 v3).length ≤ 10) (own_E_0 hc27 : ∀ p ∈ (EE p2 v3), False) Q25_0) hZ (hw _ (List.mem_of_getElem? (i := 15) rfl)) (hw _ (List.mem_of_getElem? (i := 14) rfl)) (by decide) (by decide)) (g := (mkF m 229 #[.val (.int p1), .val (.int p2), .val (.int (0 : Int32)), .val (.int v14), .val (.ref b15), .val (.int v26), .unset] [(.ref b15), (.int (0 : Int32))])) rfl (by rw [hml]; rfl) (argsL := [(.int (0 : Int32)), (.ref b15)]) (rest := []) (lenOf pd_6 rfl) rfl (by show 2 * 0 + _ ≤ _; exact Nat.le_of_eq rfl) (hb hby at_229) (fun _ _ => ⟨rfl, rfl, (by decide : 1 + 2 ≤ _), (by decide : 10 + 0 ≤ _)⟩)
    dsimp only [Pt.U, Pt.locs, Pt.cells, Pt.slots] at X28 l28 y28 z28 st28 hQ28
    replace y28 : k28 = 3 := y28
    replace z28 : n28 = 10 := z28
    subst y28 z28
    obtain ⟨b28_0, rfl, N28q, K28, sz28_0, Q28_0⟩ := hQ28
    have N28 : Fr n0 L28 := Eq.mpr (congrArg (Fr n0) l28) (Fr.app N25 N28q)
    have g_b28_0 : n0 ≤ b28_0 := Nat.le_trans Z25 sz28_0
    have sz_b28_0 : h0.size ≤ b28_0 := Nat.le_trans KK25.1 sz28_0
    have ne_b15_b28_0 : b15 ≠ b28_0 := Nat.ne_of_lt (Nat.lt_of_lt_of_le Q25_0.lt sz28_0)
    have A_b15_28 := Q25_0.keep K28 nin0
    have Z28 := Nat.le_trans Z25 K28.1
    have KK28 : Keep h0 T28.heap [] := KK25.trans K28 all0
    refine Go.step st28 ?_
    show Go p e below _ (T28.setTop (mkF m 232 _ [(.ref b28_0)]))
    refine Go.step (fun t k => XS.astore X28.here hx rfl (hb hby at_232) rfl rfl (l' := #[.val (.int p1), .val (.int p2), .val (.int (0 : Int32)), .val (.int v14), .val (.ref b15), .val (.int v26), .val (.ref b28_0)]) rfl k) ?_
    show Go p e below _ (T28.setTop (mkF m 234 _ []))
    refine gB (q := 236) X28 hx (hb hby at_234) rfl rfl rfl ?_
    refine Go.step (fun t k => XS.ifnullNo X28.here hx rfl (hb hby at_236) rfl k) ?_
    show Go p e below _ (T28.setTop (mkF m 239 _ []))
    refine gB (q := 241) X28 hx (hb hby at_239) rfl rfl rfl ?_
    refine Go.step (lenA X28 hx hZ rfl Q28_0.ary (g := (mkF m 241 _ [(.ref b28_0)])) rfl rfl (hb hby at_241)) ?_
    show Go p e below _ (T28.setTop (mkF m 242 _ [(.int (0 : Int32))]))
    refine gI (q := 243) X28 hx (hb hby at_242) rfl rfl ?_
    refine Go.step (fun t k => XS.icmpYes X28.here hx rfl (pc0 := 243) (pc' := 248) rfl (hb hby at_243) rfl (teq (rfl : (0 : Int32) = (0 : Int32))).1 (by decide) (by decide) k) ?_
    show Go p e below _ (T28.setTop (mkF m 248 _ []))
    refine gB (q := 250) X28 hx (hb hby at_248) rfl rfl rfl ?_
    refine gI (q := 251) X28 hx (hb hby at_250) rfl rfl ?_
    refine gI (q := 252) X28 hx (hb hby at_251) rfl rfl ?_
    refine gC (q := 253) (v := 0) X28 hx (hb hby at_252) rfl rfl ?_
    obtain ⟨_, _, ⟨T29, L29, k29, n29⟩, -, X29, ⟨Lc29, hQ29, l29, y29, z29⟩, st29⟩ := Jvm.LawKit.callS X28 hx (y := (⟨"com/example/hertzbid/hertzbid/ConflictPairsNeighboursPinLaw", "row", "([[IIII)Z"⟩ : MethodName)) hown (mvT hZ (hw _ (List.mem_of_getElem? (i := 19) rfl))) (mvT hZ (hw _ (List.mem_of_getElem? (i := 20) rfl))) (mvT hZ (hw _ (List.mem_of_getElem? (i := 3) rfl))) (mvT hZ (hw _ (List.mem_of_getElem? (i := 21) rfl))) (by decide) (backOf (W := 0) (rm5_ge l Z a0 hw [] b28_0 p2 (0 : Int32) (0 : Int32) T28.heap n0 Z28 (by decide : ¬ ((0 : Int32) < (0 : Int32)))) hZ (hw _ (List.mem_of_getElem? (i := 21) rfl)) (hw _ (List.mem_of_getElem? (i := 3) rfl)) (by decide) (by decide)) (g := (mkF m 253 #[.val (.int p1), .val (.int p2), .val (.int (0 : Int32)), .val (.int v14), .val (.ref b15), .val (.int v26), .val (.ref b28_0)] [(.int (0 : Int32)), (.int (0 : Int32)), (.int p2), (.ref b28_0)])) rfl (by rw [hml]; rfl) (argsL := [(.ref b28_0), (.int p2), (.int (0 : Int32)), (.int (0 : Int32))]) (rest := []) (lenOf pd_7 rfl) rfl (by show 2 * 0 + _ ≤ _; exact Nat.le_of_eq rfl) (hb hby at_253) (fun _ _ => ⟨rfl, rfl, (by decide : 3 + 0 ≤ _), (by decide : 10 + 0 ≤ _)⟩)
    dsimp only [Pt.U, Pt.locs, Pt.cells, Pt.slots] at X29 l29 y29 z29 st29 hQ29
    replace y29 : k29 = 3 := y29
    replace z29 : n29 = 10 := z29
    subst y29 z29
    obtain ⟨rfl, N29q, e29⟩ := hQ29
    have N29 : Fr n0 L29 := Eq.mpr (congrArg (Fr n0) l29) (Fr.app N28 N29q)
    refine Go.step st29 ?_
    show Go p e below _ (T29.setTop (mkF m 256 _ [(.int (1 : Int32))]))
    refine Go.step (fun t k => XS.ifNo X29.here hx rfl (hb hby at_256) rfl ((if0 _ _).trans (feq (by decide : ¬ ((1 : Int32) = (0 : Int32)))).1) k) ?_
    show Go p e below _ (T29.setTop (mkF m 259 _ []))
    refine gB (q := 261) X29 hx (hb hby at_259) rfl rfl rfl ?_
    refine gI (q := 262) X29 hx (hb hby at_261) rfl rfl ?_
    refine gI (q := 263) X29 hx (hb hby at_262) rfl rfl ?_
    refine gC (q := 264) (v := 1) X29 hx (hb hby at_263) rfl rfl ?_
    obtain ⟨_, _, ⟨T30, L30, k30, n30⟩, -, X30, ⟨Lc30, hQ30, l30, y30, z30⟩, st30⟩ := Jvm.LawKit.callS X29 hx (y := (⟨"com/example/hertzbid/hertzbid/ConflictPairsNeighboursPinLaw", "row", "([[IIII)Z"⟩ : MethodName)) hown (mvT hZ (hw _ (List.mem_of_getElem? (i := 19) rfl))) (mvT hZ (hw _ (List.mem_of_getElem? (i := 20) rfl))) (mvT hZ (hw _ (List.mem_of_getElem? (i := 3) rfl))) (mvT hZ (hw _ (List.mem_of_getElem? (i := 21) rfl))) (by decide) (backOf (W := 0) (rm5_ge l Z a0 hw [] b28_0 p2 (0 : Int32) (1 : Int32) T28.heap n0 Z28 (by decide : ¬ ((1 : Int32) < (0 : Int32)))) hZ (hw _ (List.mem_of_getElem? (i := 21) rfl)) (hw _ (List.mem_of_getElem? (i := 3) rfl)) (by decide) (by decide)) (g := (mkF m 264 #[.val (.int p1), .val (.int p2), .val (.int (0 : Int32)), .val (.int v14), .val (.ref b15), .val (.int v26), .val (.ref b28_0)] [(.int (1 : Int32)), (.int (0 : Int32)), (.int p2), (.ref b28_0)])) rfl (by rw [hml]; rfl) (argsL := [(.ref b28_0), (.int p2), (.int (0 : Int32)), (.int (1 : Int32))]) (rest := []) (lenOf pd_7 rfl) rfl (by show 2 * 0 + _ ≤ _; exact Nat.le_of_eq rfl) (hb hby at_264) (fun _ _ => ⟨rfl, e29, (by decide : 3 + 0 ≤ _), (by decide : 10 + 0 ≤ _)⟩)
    dsimp only [Pt.U, Pt.locs, Pt.cells, Pt.slots] at X30 l30 y30 z30 st30 hQ30
    replace y30 : k30 = 3 := y30
    replace z30 : n30 = 10 := z30
    subst y30 z30
    obtain ⟨rfl, N30q, e30⟩ := hQ30
    have N30 : Fr n0 L30 := Eq.mpr (congrArg (Fr n0) l30) (Fr.app N29 N30q)
    refine Go.step st30 ?_
    show Go p e below _ (T30.setTop (mkF m 267 _ [(.int (1 : Int32))]))
    refine Go.step (fun t k => XS.ifNo X30.here hx rfl (hb hby at_267) rfl ((if0 _ _).trans (feq (by decide : ¬ ((1 : Int32) = (0 : Int32)))).1) k) ?_
    show Go p e below _ (T30.setTop (mkF m 270 _ []))
    refine gB (q := 272) X30 hx (hb hby at_270) rfl rfl rfl ?_
    refine gI (q := 273) X30 hx (hb hby at_272) rfl rfl ?_
    refine gI (q := 274) X30 hx (hb hby at_273) rfl rfl ?_
    refine gC (q := 275) (v := 2) X30 hx (hb hby at_274) rfl rfl ?_
    obtain ⟨_, _, ⟨T31, L31, k31, n31⟩, -, X31, ⟨Lc31, hQ31, l31, y31, z31⟩, st31⟩ := Jvm.LawKit.callS X30 hx (y := (⟨"com/example/hertzbid/hertzbid/ConflictPairsNeighboursPinLaw", "row", "([[IIII)Z"⟩ : MethodName)) hown (mvT hZ (hw _ (List.mem_of_getElem? (i := 19) rfl))) (mvT hZ (hw _ (List.mem_of_getElem? (i := 20) rfl))) (mvT hZ (hw _ (List.mem_of_getElem? (i := 3) rfl))) (mvT hZ (hw _ (List.mem_of_getElem? (i := 21) rfl))) (by decide) (backOf (W := 0) (rm5_ge l Z a0 hw [] b28_0 p2 (0 : Int32) (2 : Int32) T28.heap n0 Z28 (by decide : ¬ ((2 : Int32) < (0 : Int32)))) hZ (hw _ (List.mem_of_getElem? (i := 21) rfl)) (hw _ (List.mem_of_getElem? (i := 3) rfl)) (by decide) (by decide)) (g := (mkF m 275 #[.val (.int p1), .val (.int p2), .val (.int (0 : Int32)), .val (.int v14), .val (.ref b15), .val (.int v26), .val (.ref b28_0)] [(.int (2 : Int32)), (.int (0 : Int32)), (.int p2), (.ref b28_0)])) rfl (by rw [hml]; rfl) (argsL := [(.ref b28_0), (.int p2), (.int (0 : Int32)), (.int (2 : Int32))]) (rest := []) (lenOf pd_7 rfl) rfl (by show 2 * 0 + _ ≤ _; exact Nat.le_of_eq rfl) (hb hby at_275) (fun _ _ => ⟨rfl, e30, (by decide : 3 + 0 ≤ _), (by decide : 10 + 0 ≤ _)⟩)
    dsimp only [Pt.U, Pt.locs, Pt.cells, Pt.slots] at X31 l31 y31 z31 st31 hQ31
    replace y31 : k31 = 3 := y31
    replace z31 : n31 = 10 := z31
    subst y31 z31
    obtain ⟨rfl, N31q, e31⟩ := hQ31
    have N31 : Fr n0 L31 := Eq.mpr (congrArg (Fr n0) l31) (Fr.app N30 N31q)
    refine Go.step st31 ?_
    show Go p e below _ (T31.setTop (mkF m 278 _ [(.int (1 : Int32))]))
    refine Go.step (fun t k => XS.ifNo X31.here hx rfl (hb hby at_278) rfl ((if0 _ _).trans (feq (by decide : ¬ ((1 : Int32) = (0 : Int32)))).1) k) ?_
    show Go p e below _ (T31.setTop (mkF m 281 _ []))
    refine gB (q := 283) X31 hx (hb hby at_281) rfl rfl rfl ?_
    refine gI (q := 284) X31 hx (hb hby at_283) rfl rfl ?_
    refine gI (q := 285) X31 hx (hb hby at_284) rfl rfl ?_
    refine gC (q := 286) (v := 3) X31 hx (hb hby at_285) rfl rfl ?_
    obtain ⟨_, _, ⟨T32, L32, k32, n32⟩, -, X32, ⟨Lc32, hQ32, l32, y32, z32⟩, st32⟩ := Jvm.LawKit.callS X31 hx (y := (⟨"com/example/hertzbid/hertzbid/ConflictPairsNeighboursPinLaw", "row", "([[IIII)Z"⟩ : MethodName)) hown (mvT hZ (hw _ (List.mem_of_getElem? (i := 19) rfl))) (mvT hZ (hw _ (List.mem_of_getElem? (i := 20) rfl))) (mvT hZ (hw _ (List.mem_of_getElem? (i := 3) rfl))) (mvT hZ (hw _ (List.mem_of_getElem? (i := 21) rfl))) (by decide) (backOf (W := 0) (rm5_ge l Z a0 hw [] b28_0 p2 (0 : Int32) (3 : Int32) T28.heap n0 Z28 (by decide : ¬ ((3 : Int32) < (0 : Int32)))) hZ (hw _ (List.mem_of_getElem? (i := 21) rfl)) (hw _ (List.mem_of_getElem? (i := 3) rfl)) (by decide) (by decide)) (g := (mkF m 286 #[.val (.int p1), .val (.int p2), .val (.int (0 : Int32)), .val (.int v14), .val (.ref b15), .val (.int v26), .val (.ref b28_0)] [(.int (3 : Int32)), (.int (0 : Int32)), (.int p2), (.ref b28_0)])) rfl (by rw [hml]; rfl) (argsL := [(.ref b28_0), (.int p2), (.int (0 : Int32)), (.int (3 : Int32))]) (rest := []) (lenOf pd_7 rfl) rfl (by show 2 * 0 + _ ≤ _; exact Nat.le_of_eq rfl) (hb hby at_286) (fun _ _ => ⟨rfl, e31, (by decide : 3 + 0 ≤ _), (by decide : 10 + 0 ≤ _)⟩)
    dsimp only [Pt.U, Pt.locs, Pt.cells, Pt.slots] at X32 l32 y32 z32 st32 hQ32
    replace y32 : k32 = 3 := y32
    replace z32 : n32 = 10 := z32
    subst y32 z32
    obtain ⟨rfl, N32q, e32⟩ := hQ32
    have N32 : Fr n0 L32 := Eq.mpr (congrArg (Fr n0) l32) (Fr.app N31 N32q)
    refine Go.step st32 ?_
    show Go p e below _ (T32.setTop (mkF m 289 _ [(.int (1 : Int32))]))
    refine Go.step (fun t k => XS.ifNo X32.here hx rfl (hb hby at_289) rfl ((if0 _ _).trans (feq (by decide : ¬ ((1 : Int32) = (0 : Int32)))).1) k) ?_
    show Go p e below _ (T32.setTop (mkF m 292 _ []))
    refine gB (q := 294) X32 hx (hb hby at_292) rfl rfl rfl ?_
    refine gI (q := 295) X32 hx (hb hby at_294) rfl rfl ?_
    refine gI (q := 296) X32 hx (hb hby at_295) rfl rfl ?_
    refine gC (q := 297) (v := 4) X32 hx (hb hby at_296) rfl rfl ?_
    obtain ⟨_, _, ⟨T33, L33, k33, n33⟩, -, X33, ⟨Lc33, hQ33, l33, y33, z33⟩, st33⟩ := Jvm.LawKit.callS X32 hx (y := (⟨"com/example/hertzbid/hertzbid/ConflictPairsNeighboursPinLaw", "row", "([[IIII)Z"⟩ : MethodName)) hown (mvT hZ (hw _ (List.mem_of_getElem? (i := 19) rfl))) (mvT hZ (hw _ (List.mem_of_getElem? (i := 20) rfl))) (mvT hZ (hw _ (List.mem_of_getElem? (i := 3) rfl))) (mvT hZ (hw _ (List.mem_of_getElem? (i := 21) rfl))) (by decide) (backOf (W := 0) (rm5_ge l Z a0 hw [] b28_0 p2 (0 : Int32) (4 : Int32) T28.heap n0 Z28 (by decide : ¬ ((4 : Int32) < (0 : Int32)))) hZ (hw _ (List.mem_of_getElem? (i := 21) rfl)) (hw _ (List.mem_of_getElem? (i := 3) rfl)) (by decide) (by decide)) (g := (mkF m 297 #[.val (.int p1), .val (.int p2), .val (.int (0 : Int32)), .val (.int v14), .val (.ref b15), .val (.int v26), .val (.ref b28_0)] [(.int (4 : Int32)), (.int (0 : Int32)), (.int p2), (.ref b28_0)])) rfl (by rw [hml]; rfl) (argsL := [(.ref b28_0), (.int p2), (.int (0 : Int32)), (.int (4 : Int32))]) (rest := []) (lenOf pd_7 rfl) rfl (by show 2 * 0 + _ ≤ _; exact Nat.le_of_eq rfl) (hb hby at_297) (fun _ _ => ⟨rfl, e32, (by decide : 3 + 0 ≤ _), (by decide : 10 + 0 ≤ _)⟩)
    dsimp only [Pt.U, Pt.locs, Pt.cells, Pt.slots] at X33 l33 y33 z33 st33 hQ33
    replace y33 : k33 = 3 := y33
    replace z33 : n33 = 10 := z33
    subst y33 z33
    obtain ⟨rfl, N33q, e33⟩ := hQ33
    have N33 : Fr n0 L33 := Eq.mpr (congrArg (Fr n0) l33) (Fr.app N32 N33q)
    refine Go.step st33 ?_
    show Go p e below _ (T33.setTop (mkF m 300 _ [(.int (1 : Int32))]))
    refine Go.step (fun t k => XS.ifNo X33.here hx rfl (hb hby at_300) rfl ((if0 _ _).trans (feq (by decide : ¬ ((1 : Int32) = (0 : Int32)))).1) k) ?_
    show Go p e below _ (T33.setTop (mkF m 303 _ []))
    refine gC (q := 304) (v := 1) X33 hx (hb hby at_303) rfl rfl ?_
    refine Go.step (fun t k => XS.goto X33.here hx rfl (pc0 := 304) (pc' := 308) rfl (hb hby at_304) (by decide) (by decide) k) ?_
    show Go p e below _ (T33.setTop (mkF m 308 _ [(.int (1 : Int32))]))
    subst hv14
    subst hv3
    exact retGN X33 hx Bd.notSynchronized Bd.returns (t := .boolean) (by simp) (z' := (1 : Int32)) rfl (hb hby at_308) ⟨by first | (simp only [f0, if_pos hc27]; done) | rfl | (simp [f0, if_pos hc27]; done), N33⟩ (by decide) (by decide)
  · skip
    by_cases hc34 : v3 = (1 : Int32)
    · rw [hc34]
      show Go p e below _ (T25.setTop (mkF m 226 _ []))
      refine gI (q := 227) X25 hx (hb hby at_226) rfl rfl ?_
      refine gB (q := 229) X25 hx (hb hby at_227) rfl rfl rfl ?_
      obtain ⟨_, _, ⟨T35, L35, k35, n35⟩, -, X35, ⟨Lc35, hQ35, l35, y35, z35⟩, st35⟩ := Jvm.LawKit.callS X25 hx (y := (⟨"com/example/hertzbid/hertzbid/ConflictPairs", "neighbours", "(I[J)[[I"⟩ : MethodName)) hown (mvT hZ (hw _ (List.mem_of_getElem? (i := 12) rfl))) (mvT hZ (hw _ (List.mem_of_getElem? (i := 13) rfl))) (mvT hZ (hw _ (List.mem_of_getElem? (i := 14) rfl))) (mvT hZ (hw _ (List.mem_of_getElem? (i := 15) rfl))) (by decide) (backOf (W := 0) (rm4_1 l Z a0 hw [] b15 (EE p2 v3) T25.heap n0 Z25 (own_10 p2 v3 : (EE p2 v3).length ≤ 10) (own_E_1 hc34 : ∀ p ∈ (EE p2 v3), False) Q25_0) hZ (hw _ (List.mem_of_getElem? (i := 15) rfl)) (hw _ (List.mem_of_getElem? (i := 14) rfl)) (by decide) (by decide)) (g := (mkF m 229 #[.val (.int p1), .val (.int p2), .val (.int (1 : Int32)), .val (.int v14), .val (.ref b15), .val (.int v26), .unset] [(.ref b15), (.int (1 : Int32))])) rfl (by rw [hml]; rfl) (argsL := [(.int (1 : Int32)), (.ref b15)]) (rest := []) (lenOf pd_6 rfl) rfl (by show 2 * 0 + _ ≤ _; exact Nat.le_of_eq rfl) (hb hby at_229) (fun _ _ => ⟨rfl, rfl, (by decide : 1 + 3 ≤ _), (by decide : 10 + 12 ≤ _)⟩)
      dsimp only [Pt.U, Pt.locs, Pt.cells, Pt.slots] at X35 l35 y35 z35 st35 hQ35
      replace y35 : k35 = 4 := y35
      replace z35 : n35 = 22 := z35
      subst y35 z35
      obtain ⟨b35_0, b35_1, rfl, N35q, K35, sz35_0, sz35_1, Q35_0, Q35_1⟩ := hQ35
      have N35 : Fr n0 L35 := Eq.mpr (congrArg (Fr n0) l35) (Fr.app N25 N35q)
      have g_b35_0 : n0 ≤ b35_0 := Nat.le_trans Z25 sz35_0
      have sz_b35_0 : h0.size ≤ b35_0 := Nat.le_trans KK25.1 sz35_0
      have ne_b15_b35_0 : b15 ≠ b35_0 := Nat.ne_of_lt (Nat.lt_of_lt_of_le Q25_0.lt sz35_0)
      have g_b35_1 : n0 ≤ b35_1 := Nat.le_trans Z25 sz35_1
      have sz_b35_1 : h0.size ≤ b35_1 := Nat.le_trans KK25.1 sz35_1
      have ne_b15_b35_1 : b15 ≠ b35_1 := Nat.ne_of_lt (Nat.lt_of_lt_of_le Q25_0.lt sz35_1)
      have A_b15_35 := Q25_0.keep K35 nin0
      have Z35 := Nat.le_trans Z25 K35.1
      have KK35 : Keep h0 T35.heap [] := KK25.trans K35 all0
      refine Go.step st35 ?_
      show Go p e below _ (T35.setTop (mkF m 232 _ [(.ref b35_0)]))
      refine Go.step (fun t k => XS.astore X35.here hx rfl (hb hby at_232) rfl rfl (l' := #[.val (.int p1), .val (.int p2), .val (.int (1 : Int32)), .val (.int v14), .val (.ref b15), .val (.int v26), .val (.ref b35_0)]) rfl k) ?_
      show Go p e below _ (T35.setTop (mkF m 234 _ []))
      refine gB (q := 236) X35 hx (hb hby at_234) rfl rfl rfl ?_
      refine Go.step (fun t k => XS.ifnullNo X35.here hx rfl (hb hby at_236) rfl k) ?_
      show Go p e below _ (T35.setTop (mkF m 239 _ []))
      refine gB (q := 241) X35 hx (hb hby at_239) rfl rfl rfl ?_
      refine Go.step (lenA X35 hx hZ rfl Q35_1.ary (g := (mkF m 241 _ [(.ref b35_0)])) rfl rfl (hb hby at_241)) ?_
      show Go p e below _ (T35.setTop (mkF m 242 _ [(.int (1 : Int32))]))
      refine gI (q := 243) X35 hx (hb hby at_242) rfl rfl ?_
      refine Go.step (fun t k => XS.icmpYes X35.here hx rfl (pc0 := 243) (pc' := 248) rfl (hb hby at_243) rfl (teq (rfl : (1 : Int32) = (1 : Int32))).1 (by decide) (by decide) k) ?_
      show Go p e below _ (T35.setTop (mkF m 248 _ []))
      refine gB (q := 250) X35 hx (hb hby at_248) rfl rfl rfl ?_
      refine gI (q := 251) X35 hx (hb hby at_250) rfl rfl ?_
      refine gI (q := 252) X35 hx (hb hby at_251) rfl rfl ?_
      refine gC (q := 253) (v := 0) X35 hx (hb hby at_252) rfl rfl ?_
      obtain ⟨_, _, ⟨T36, L36, k36, n36⟩, -, X36, ⟨Lc36, hQ36, l36, y36, z36⟩, st36⟩ := Jvm.LawKit.callS X35 hx (y := (⟨"com/example/hertzbid/hertzbid/ConflictPairsNeighboursPinLaw", "row", "([[IIII)Z"⟩ : MethodName)) hown (mvT hZ (hw _ (List.mem_of_getElem? (i := 19) rfl))) (mvT hZ (hw _ (List.mem_of_getElem? (i := 20) rfl))) (mvT hZ (hw _ (List.mem_of_getElem? (i := 3) rfl))) (mvT hZ (hw _ (List.mem_of_getElem? (i := 21) rfl))) (by decide) (backOf (W := 0) (rm5 l Z a0 hw [] b35_0 p2 (1 : Int32) (0 : Int32) (1 : Nat) (upA (fun _ => Value.null) 0 (Value.ref b35_1)) b35_1 (nb (EE p2 v3) 0) T35.heap n0 Z35 (by decide : ¬ (0 : Int32) < (0 : Int32)) (by decide : (0 : Int32).toNatClampNeg < (1 : Nat)) (rfl : (upA (fun _ => Value.null) 0 (Value.ref b35_1)) (0 : Int32).toNatClampNeg = .ref b35_1) Q35_1 Q35_0 (by decide : (0 : Int32) < (1 : Int32))) hZ (hw _ (List.mem_of_getElem? (i := 21) rfl)) (hw _ (List.mem_of_getElem? (i := 3) rfl)) (by decide) (by decide)) (g := (mkF m 253 #[.val (.int p1), .val (.int p2), .val (.int (1 : Int32)), .val (.int v14), .val (.ref b15), .val (.int v26), .val (.ref b35_0)] [(.int (0 : Int32)), (.int (1 : Int32)), (.int p2), (.ref b35_0)])) rfl (by rw [hml]; rfl) (argsL := [(.ref b35_0), (.int p2), (.int (1 : Int32)), (.int (0 : Int32))]) (rest := []) (lenOf pd_7 rfl) rfl (by show 2 * 0 + _ ≤ _; exact Nat.le_of_eq rfl) (hb hby at_253) (fun _ _ => ⟨rfl, rfl, (by decide : 4 + 0 ≤ _), (by decide : 22 + 0 ≤ _)⟩)
      dsimp only [Pt.U, Pt.locs, Pt.cells, Pt.slots] at X36 l36 y36 z36 st36 hQ36
      replace y36 : k36 = 4 := y36
      replace z36 : n36 = 22 := z36
      subst y36 z36
      obtain ⟨rfl, N36q, e36⟩ := hQ36
      have N36 : Fr n0 L36 := Eq.mpr (congrArg (Fr n0) l36) (Fr.app N35 N36q)
      refine Go.step st36 ?_
      show Go p e below _ (T36.setTop (mkF m 256 _ [(.int (f5 p2 (1 : Int32) (0 : Int32) (nb (EE p2 v3) 0)))]))
      by_cases hc37 : (f5 p2 (1 : Int32) (0 : Int32) (nb (EE p2 v3) 0)) = (0 : Int32)
      · exfalso
        exact own_row_1_0 hc34 hc37
      · refine Go.step (fun t k => XS.ifNo X36.here hx rfl (hb hby at_256) rfl ((if0 _ _).trans (feq hc37).1) k) ?_
        show Go p e below _ (T36.setTop (mkF m 259 _ []))
        refine gB (q := 261) X36 hx (hb hby at_259) rfl rfl rfl ?_
        refine gI (q := 262) X36 hx (hb hby at_261) rfl rfl ?_
        refine gI (q := 263) X36 hx (hb hby at_262) rfl rfl ?_
        refine gC (q := 264) (v := 1) X36 hx (hb hby at_263) rfl rfl ?_
        obtain ⟨_, _, ⟨T38, L38, k38, n38⟩, -, X38, ⟨Lc38, hQ38, l38, y38, z38⟩, st38⟩ := Jvm.LawKit.callS X36 hx (y := (⟨"com/example/hertzbid/hertzbid/ConflictPairsNeighboursPinLaw", "row", "([[IIII)Z"⟩ : MethodName)) hown (mvT hZ (hw _ (List.mem_of_getElem? (i := 19) rfl))) (mvT hZ (hw _ (List.mem_of_getElem? (i := 20) rfl))) (mvT hZ (hw _ (List.mem_of_getElem? (i := 3) rfl))) (mvT hZ (hw _ (List.mem_of_getElem? (i := 21) rfl))) (by decide) (backOf (W := 0) (rm5_ge l Z a0 hw [] b35_0 p2 (1 : Int32) (1 : Int32) T35.heap n0 Z35 (by decide : ¬ ((1 : Int32) < (1 : Int32)))) hZ (hw _ (List.mem_of_getElem? (i := 21) rfl)) (hw _ (List.mem_of_getElem? (i := 3) rfl)) (by decide) (by decide)) (g := (mkF m 264 #[.val (.int p1), .val (.int p2), .val (.int (1 : Int32)), .val (.int v14), .val (.ref b15), .val (.int v26), .val (.ref b35_0)] [(.int (1 : Int32)), (.int (1 : Int32)), (.int p2), (.ref b35_0)])) rfl (by rw [hml]; rfl) (argsL := [(.ref b35_0), (.int p2), (.int (1 : Int32)), (.int (1 : Int32))]) (rest := []) (lenOf pd_7 rfl) rfl (by show 2 * 0 + _ ≤ _; exact Nat.le_of_eq rfl) (hb hby at_264) (fun _ _ => ⟨rfl, e36, (by decide : 4 + 0 ≤ _), (by decide : 22 + 0 ≤ _)⟩)
        dsimp only [Pt.U, Pt.locs, Pt.cells, Pt.slots] at X38 l38 y38 z38 st38 hQ38
        replace y38 : k38 = 4 := y38
        replace z38 : n38 = 22 := z38
        subst y38 z38
        obtain ⟨rfl, N38q, e38⟩ := hQ38
        have N38 : Fr n0 L38 := Eq.mpr (congrArg (Fr n0) l38) (Fr.app N36 N38q)
        refine Go.step st38 ?_
        show Go p e below _ (T38.setTop (mkF m 267 _ [(.int (1 : Int32))]))
        refine Go.step (fun t k => XS.ifNo X38.here hx rfl (hb hby at_267) rfl ((if0 _ _).trans (feq (by decide : ¬ ((1 : Int32) = (0 : Int32)))).1) k) ?_
        show Go p e below _ (T38.setTop (mkF m 270 _ []))
        refine gB (q := 272) X38 hx (hb hby at_270) rfl rfl rfl ?_
        refine gI (q := 273) X38 hx (hb hby at_272) rfl rfl ?_
        refine gI (q := 274) X38 hx (hb hby at_273) rfl rfl ?_
        refine gC (q := 275) (v := 2) X38 hx (hb hby at_274) rfl rfl ?_
        obtain ⟨_, _, ⟨T39, L39, k39, n39⟩, -, X39, ⟨Lc39, hQ39, l39, y39, z39⟩, st39⟩ := Jvm.LawKit.callS X38 hx (y := (⟨"com/example/hertzbid/hertzbid/ConflictPairsNeighboursPinLaw", "row", "([[IIII)Z"⟩ : MethodName)) hown (mvT hZ (hw _ (List.mem_of_getElem? (i := 19) rfl))) (mvT hZ (hw _ (List.mem_of_getElem? (i := 20) rfl))) (mvT hZ (hw _ (List.mem_of_getElem? (i := 3) rfl))) (mvT hZ (hw _ (List.mem_of_getElem? (i := 21) rfl))) (by decide) (backOf (W := 0) (rm5_ge l Z a0 hw [] b35_0 p2 (1 : Int32) (2 : Int32) T35.heap n0 Z35 (by decide : ¬ ((2 : Int32) < (1 : Int32)))) hZ (hw _ (List.mem_of_getElem? (i := 21) rfl)) (hw _ (List.mem_of_getElem? (i := 3) rfl)) (by decide) (by decide)) (g := (mkF m 275 #[.val (.int p1), .val (.int p2), .val (.int (1 : Int32)), .val (.int v14), .val (.ref b15), .val (.int v26), .val (.ref b35_0)] [(.int (2 : Int32)), (.int (1 : Int32)), (.int p2), (.ref b35_0)])) rfl (by rw [hml]; rfl) (argsL := [(.ref b35_0), (.int p2), (.int (1 : Int32)), (.int (2 : Int32))]) (rest := []) (lenOf pd_7 rfl) rfl (by show 2 * 0 + _ ≤ _; exact Nat.le_of_eq rfl) (hb hby at_275) (fun _ _ => ⟨rfl, e38, (by decide : 4 + 0 ≤ _), (by decide : 22 + 0 ≤ _)⟩)
        dsimp only [Pt.U, Pt.locs, Pt.cells, Pt.slots] at X39 l39 y39 z39 st39 hQ39
        replace y39 : k39 = 4 := y39
        replace z39 : n39 = 22 := z39
        subst y39 z39
        obtain ⟨rfl, N39q, e39⟩ := hQ39
        have N39 : Fr n0 L39 := Eq.mpr (congrArg (Fr n0) l39) (Fr.app N38 N39q)
        refine Go.step st39 ?_
        show Go p e below _ (T39.setTop (mkF m 278 _ [(.int (1 : Int32))]))
        refine Go.step (fun t k => XS.ifNo X39.here hx rfl (hb hby at_278) rfl ((if0 _ _).trans (feq (by decide : ¬ ((1 : Int32) = (0 : Int32)))).1) k) ?_
        show Go p e below _ (T39.setTop (mkF m 281 _ []))
        refine gB (q := 283) X39 hx (hb hby at_281) rfl rfl rfl ?_
        refine gI (q := 284) X39 hx (hb hby at_283) rfl rfl ?_
        refine gI (q := 285) X39 hx (hb hby at_284) rfl rfl ?_
        refine gC (q := 286) (v := 3) X39 hx (hb hby at_285) rfl rfl ?_
        obtain ⟨_, _, ⟨T40, L40, k40, n40⟩, -, X40, ⟨Lc40, hQ40, l40, y40, z40⟩, st40⟩ := Jvm.LawKit.callS X39 hx (y := (⟨"com/example/hertzbid/hertzbid/ConflictPairsNeighboursPinLaw", "row", "([[IIII)Z"⟩ : MethodName)) hown (mvT hZ (hw _ (List.mem_of_getElem? (i := 19) rfl))) (mvT hZ (hw _ (List.mem_of_getElem? (i := 20) rfl))) (mvT hZ (hw _ (List.mem_of_getElem? (i := 3) rfl))) (mvT hZ (hw _ (List.mem_of_getElem? (i := 21) rfl))) (by decide) (backOf (W := 0) (rm5_ge l Z a0 hw [] b35_0 p2 (1 : Int32) (3 : Int32) T35.heap n0 Z35 (by decide : ¬ ((3 : Int32) < (1 : Int32)))) hZ (hw _ (List.mem_of_getElem? (i := 21) rfl)) (hw _ (List.mem_of_getElem? (i := 3) rfl)) (by decide) (by decide)) (g := (mkF m 286 #[.val (.int p1), .val (.int p2), .val (.int (1 : Int32)), .val (.int v14), .val (.ref b15), .val (.int v26), .val (.ref b35_0)] [(.int (3 : Int32)), (.int (1 : Int32)), (.int p2), (.ref b35_0)])) rfl (by rw [hml]; rfl) (argsL := [(.ref b35_0), (.int p2), (.int (1 : Int32)), (.int (3 : Int32))]) (rest := []) (lenOf pd_7 rfl) rfl (by show 2 * 0 + _ ≤ _; exact Nat.le_of_eq rfl) (hb hby at_286) (fun _ _ => ⟨rfl, e39, (by decide : 4 + 0 ≤ _), (by decide : 22 + 0 ≤ _)⟩)
        dsimp only [Pt.U, Pt.locs, Pt.cells, Pt.slots] at X40 l40 y40 z40 st40 hQ40
        replace y40 : k40 = 4 := y40
        replace z40 : n40 = 22 := z40
        subst y40 z40
        obtain ⟨rfl, N40q, e40⟩ := hQ40
        have N40 : Fr n0 L40 := Eq.mpr (congrArg (Fr n0) l40) (Fr.app N39 N40q)
        refine Go.step st40 ?_
        show Go p e below _ (T40.setTop (mkF m 289 _ [(.int (1 : Int32))]))
        refine Go.step (fun t k => XS.ifNo X40.here hx rfl (hb hby at_289) rfl ((if0 _ _).trans (feq (by decide : ¬ ((1 : Int32) = (0 : Int32)))).1) k) ?_
        show Go p e below _ (T40.setTop (mkF m 292 _ []))
        refine gB (q := 294) X40 hx (hb hby at_292) rfl rfl rfl ?_
        refine gI (q := 295) X40 hx (hb hby at_294) rfl rfl ?_
        refine gI (q := 296) X40 hx (hb hby at_295) rfl rfl ?_
        refine gC (q := 297) (v := 4) X40 hx (hb hby at_296) rfl rfl ?_
        obtain ⟨_, _, ⟨T41, L41, k41, n41⟩, -, X41, ⟨Lc41, hQ41, l41, y41, z41⟩, st41⟩ := Jvm.LawKit.callS X40 hx (y := (⟨"com/example/hertzbid/hertzbid/ConflictPairsNeighboursPinLaw", "row", "([[IIII)Z"⟩ : MethodName)) hown (mvT hZ (hw _ (List.mem_of_getElem? (i := 19) rfl))) (mvT hZ (hw _ (List.mem_of_getElem? (i := 20) rfl))) (mvT hZ (hw _ (List.mem_of_getElem? (i := 3) rfl))) (mvT hZ (hw _ (List.mem_of_getElem? (i := 21) rfl))) (by decide) (backOf (W := 0) (rm5_ge l Z a0 hw [] b35_0 p2 (1 : Int32) (4 : Int32) T35.heap n0 Z35 (by decide : ¬ ((4 : Int32) < (1 : Int32)))) hZ (hw _ (List.mem_of_getElem? (i := 21) rfl)) (hw _ (List.mem_of_getElem? (i := 3) rfl)) (by decide) (by decide)) (g := (mkF m 297 #[.val (.int p1), .val (.int p2), .val (.int (1 : Int32)), .val (.int v14), .val (.ref b15), .val (.int v26), .val (.ref b35_0)] [(.int (4 : Int32)), (.int (1 : Int32)), (.int p2), (.ref b35_0)])) rfl (by rw [hml]; rfl) (argsL := [(.ref b35_0), (.int p2), (.int (1 : Int32)), (.int (4 : Int32))]) (rest := []) (lenOf pd_7 rfl) rfl (by show 2 * 0 + _ ≤ _; exact Nat.le_of_eq rfl) (hb hby at_297) (fun _ _ => ⟨rfl, e40, (by decide : 4 + 0 ≤ _), (by decide : 22 + 0 ≤ _)⟩)
        dsimp only [Pt.U, Pt.locs, Pt.cells, Pt.slots] at X41 l41 y41 z41 st41 hQ41
        replace y41 : k41 = 4 := y41
        replace z41 : n41 = 22 := z41
        subst y41 z41
        obtain ⟨rfl, N41q, e41⟩ := hQ41
        have N41 : Fr n0 L41 := Eq.mpr (congrArg (Fr n0) l41) (Fr.app N40 N41q)
        refine Go.step st41 ?_
        show Go p e below _ (T41.setTop (mkF m 300 _ [(.int (1 : Int32))]))
        refine Go.step (fun t k => XS.ifNo X41.here hx rfl (hb hby at_300) rfl ((if0 _ _).trans (feq (by decide : ¬ ((1 : Int32) = (0 : Int32)))).1) k) ?_
        show Go p e below _ (T41.setTop (mkF m 303 _ []))
        refine gC (q := 304) (v := 1) X41 hx (hb hby at_303) rfl rfl ?_
        refine Go.step (fun t k => XS.goto X41.here hx rfl (pc0 := 304) (pc' := 308) rfl (hb hby at_304) (by decide) (by decide) k) ?_
        show Go p e below _ (T41.setTop (mkF m 308 _ [(.int (1 : Int32))]))
        subst hv14
        subst hv3
        exact retGN X41 hx Bd.notSynchronized Bd.returns (t := .boolean) (by simp) (z' := (1 : Int32)) rfl (hb hby at_308) ⟨by first | (simp only [f0, if_neg hc27, if_pos hc34, if_neg hc37]; done) | rfl | (simp [f0, if_neg hc27, if_pos hc34, if_neg hc37]; done), N41⟩ (by decide) (by decide)
    · skip
      by_cases hc42 : v3 = (2 : Int32)
      · rw [hc42]
        show Go p e below _ (T25.setTop (mkF m 226 _ []))
        refine gI (q := 227) X25 hx (hb hby at_226) rfl rfl ?_
        refine gB (q := 229) X25 hx (hb hby at_227) rfl rfl rfl ?_
        obtain ⟨_, _, ⟨T43, L43, k43, n43⟩, -, X43, ⟨Lc43, hQ43, l43, y43, z43⟩, st43⟩ := Jvm.LawKit.callS X25 hx (y := (⟨"com/example/hertzbid/hertzbid/ConflictPairs", "neighbours", "(I[J)[[I"⟩ : MethodName)) hown (mvT hZ (hw _ (List.mem_of_getElem? (i := 12) rfl))) (mvT hZ (hw _ (List.mem_of_getElem? (i := 13) rfl))) (mvT hZ (hw _ (List.mem_of_getElem? (i := 14) rfl))) (mvT hZ (hw _ (List.mem_of_getElem? (i := 15) rfl))) (by decide) (backOf (W := 0) (rm4_2 l Z a0 hw [] b15 (EE p2 v3) T25.heap n0 Z25 (own_10 p2 v3 : (EE p2 v3).length ≤ 10) (own_E_2 hc42 : ∀ p ∈ (EE p2 v3), p = (0, 1)) Q25_0) hZ (hw _ (List.mem_of_getElem? (i := 15) rfl)) (hw _ (List.mem_of_getElem? (i := 14) rfl)) (by decide) (by decide)) (g := (mkF m 229 #[.val (.int p1), .val (.int p2), .val (.int (2 : Int32)), .val (.int v14), .val (.ref b15), .val (.int v26), .unset] [(.ref b15), (.int (2 : Int32))])) rfl (by rw [hml]; rfl) (argsL := [(.int (2 : Int32)), (.ref b15)]) (rest := []) (lenOf pd_6 rfl) rfl (by show 2 * 0 + _ ≤ _; exact Nat.le_of_eq rfl) (hb hby at_229) (fun _ _ => ⟨rfl, rfl, (by decide : 1 + 4 ≤ _), (by decide : 10 + 24 ≤ _)⟩)
        dsimp only [Pt.U, Pt.locs, Pt.cells, Pt.slots] at X43 l43 y43 z43 st43 hQ43
        replace y43 : k43 = 5 := y43
        replace z43 : n43 = 34 := z43
        subst y43 z43
        obtain ⟨b43_0, b43_1, b43_2, rfl, N43q, K43, sz43_0, sz43_1, sz43_2, Q43_0, Q43_1, Q43_2⟩ := hQ43
        have N43 : Fr n0 L43 := Eq.mpr (congrArg (Fr n0) l43) (Fr.app N25 N43q)
        have g_b43_0 : n0 ≤ b43_0 := Nat.le_trans Z25 sz43_0
        have sz_b43_0 : h0.size ≤ b43_0 := Nat.le_trans KK25.1 sz43_0
        have ne_b15_b43_0 : b15 ≠ b43_0 := Nat.ne_of_lt (Nat.lt_of_lt_of_le Q25_0.lt sz43_0)
        have g_b43_1 : n0 ≤ b43_1 := Nat.le_trans Z25 sz43_1
        have sz_b43_1 : h0.size ≤ b43_1 := Nat.le_trans KK25.1 sz43_1
        have ne_b15_b43_1 : b15 ≠ b43_1 := Nat.ne_of_lt (Nat.lt_of_lt_of_le Q25_0.lt sz43_1)
        have g_b43_2 : n0 ≤ b43_2 := Nat.le_trans Z25 sz43_2
        have sz_b43_2 : h0.size ≤ b43_2 := Nat.le_trans KK25.1 sz43_2
        have ne_b15_b43_2 : b15 ≠ b43_2 := Nat.ne_of_lt (Nat.lt_of_lt_of_le Q25_0.lt sz43_2)
        have A_b15_43 := Q25_0.keep K43 nin0
        have Z43 := Nat.le_trans Z25 K43.1
        have KK43 : Keep h0 T43.heap [] := KK25.trans K43 all0
        refine Go.step st43 ?_
        show Go p e below _ (T43.setTop (mkF m 232 _ [(.ref b43_0)]))
        refine Go.step (fun t k => XS.astore X43.here hx rfl (hb hby at_232) rfl rfl (l' := #[.val (.int p1), .val (.int p2), .val (.int (2 : Int32)), .val (.int v14), .val (.ref b15), .val (.int v26), .val (.ref b43_0)]) rfl k) ?_
        show Go p e below _ (T43.setTop (mkF m 234 _ []))
        refine gB (q := 236) X43 hx (hb hby at_234) rfl rfl rfl ?_
        refine Go.step (fun t k => XS.ifnullNo X43.here hx rfl (hb hby at_236) rfl k) ?_
        show Go p e below _ (T43.setTop (mkF m 239 _ []))
        refine gB (q := 241) X43 hx (hb hby at_239) rfl rfl rfl ?_
        refine Go.step (lenA X43 hx hZ rfl Q43_2.ary (g := (mkF m 241 _ [(.ref b43_0)])) rfl rfl (hb hby at_241)) ?_
        show Go p e below _ (T43.setTop (mkF m 242 _ [(.int (2 : Int32))]))
        refine gI (q := 243) X43 hx (hb hby at_242) rfl rfl ?_
        refine Go.step (fun t k => XS.icmpYes X43.here hx rfl (pc0 := 243) (pc' := 248) rfl (hb hby at_243) rfl (teq (rfl : (2 : Int32) = (2 : Int32))).1 (by decide) (by decide) k) ?_
        show Go p e below _ (T43.setTop (mkF m 248 _ []))
        refine gB (q := 250) X43 hx (hb hby at_248) rfl rfl rfl ?_
        refine gI (q := 251) X43 hx (hb hby at_250) rfl rfl ?_
        refine gI (q := 252) X43 hx (hb hby at_251) rfl rfl ?_
        refine gC (q := 253) (v := 0) X43 hx (hb hby at_252) rfl rfl ?_
        obtain ⟨_, _, ⟨T44, L44, k44, n44⟩, -, X44, ⟨Lc44, hQ44, l44, y44, z44⟩, st44⟩ := Jvm.LawKit.callS X43 hx (y := (⟨"com/example/hertzbid/hertzbid/ConflictPairsNeighboursPinLaw", "row", "([[IIII)Z"⟩ : MethodName)) hown (mvT hZ (hw _ (List.mem_of_getElem? (i := 19) rfl))) (mvT hZ (hw _ (List.mem_of_getElem? (i := 20) rfl))) (mvT hZ (hw _ (List.mem_of_getElem? (i := 3) rfl))) (mvT hZ (hw _ (List.mem_of_getElem? (i := 21) rfl))) (by decide) (backOf (W := 0) (rm5 l Z a0 hw [] b43_0 p2 (2 : Int32) (0 : Int32) (2 : Nat) (upA (upA (fun _ => Value.null) 0 (Value.ref b43_1)) 1 (Value.ref b43_2)) b43_1 (nb (EE p2 v3) 0) T43.heap n0 Z43 (by decide : ¬ (0 : Int32) < (0 : Int32)) (by decide : (0 : Int32).toNatClampNeg < (2 : Nat)) (rfl : (upA (upA (fun _ => Value.null) 0 (Value.ref b43_1)) 1 (Value.ref b43_2)) (0 : Int32).toNatClampNeg = .ref b43_1) Q43_2 Q43_0 (by decide : (0 : Int32) < (2 : Int32))) hZ (hw _ (List.mem_of_getElem? (i := 21) rfl)) (hw _ (List.mem_of_getElem? (i := 3) rfl)) (by decide) (by decide)) (g := (mkF m 253 #[.val (.int p1), .val (.int p2), .val (.int (2 : Int32)), .val (.int v14), .val (.ref b15), .val (.int v26), .val (.ref b43_0)] [(.int (0 : Int32)), (.int (2 : Int32)), (.int p2), (.ref b43_0)])) rfl (by rw [hml]; rfl) (argsL := [(.ref b43_0), (.int p2), (.int (2 : Int32)), (.int (0 : Int32))]) (rest := []) (lenOf pd_7 rfl) rfl (by show 2 * 0 + _ ≤ _; exact Nat.le_of_eq rfl) (hb hby at_253) (fun _ _ => ⟨rfl, rfl, (by decide : 5 + 0 ≤ _), (by decide : 34 + 0 ≤ _)⟩)
        dsimp only [Pt.U, Pt.locs, Pt.cells, Pt.slots] at X44 l44 y44 z44 st44 hQ44
        replace y44 : k44 = 5 := y44
        replace z44 : n44 = 34 := z44
        subst y44 z44
        obtain ⟨rfl, N44q, e44⟩ := hQ44
        have N44 : Fr n0 L44 := Eq.mpr (congrArg (Fr n0) l44) (Fr.app N43 N44q)
        refine Go.step st44 ?_
        show Go p e below _ (T44.setTop (mkF m 256 _ [(.int (f5 p2 (2 : Int32) (0 : Int32) (nb (EE p2 v3) 0)))]))
        by_cases hc45 : (f5 p2 (2 : Int32) (0 : Int32) (nb (EE p2 v3) 0)) = (0 : Int32)
        · exfalso
          exact own_row_2_0 hc42 hc45
        · refine Go.step (fun t k => XS.ifNo X44.here hx rfl (hb hby at_256) rfl ((if0 _ _).trans (feq hc45).1) k) ?_
          show Go p e below _ (T44.setTop (mkF m 259 _ []))
          refine gB (q := 261) X44 hx (hb hby at_259) rfl rfl rfl ?_
          refine gI (q := 262) X44 hx (hb hby at_261) rfl rfl ?_
          refine gI (q := 263) X44 hx (hb hby at_262) rfl rfl ?_
          refine gC (q := 264) (v := 1) X44 hx (hb hby at_263) rfl rfl ?_
          obtain ⟨_, _, ⟨T46, L46, k46, n46⟩, -, X46, ⟨Lc46, hQ46, l46, y46, z46⟩, st46⟩ := Jvm.LawKit.callS X44 hx (y := (⟨"com/example/hertzbid/hertzbid/ConflictPairsNeighboursPinLaw", "row", "([[IIII)Z"⟩ : MethodName)) hown (mvT hZ (hw _ (List.mem_of_getElem? (i := 19) rfl))) (mvT hZ (hw _ (List.mem_of_getElem? (i := 20) rfl))) (mvT hZ (hw _ (List.mem_of_getElem? (i := 3) rfl))) (mvT hZ (hw _ (List.mem_of_getElem? (i := 21) rfl))) (by decide) (backOf (W := 0) (rm5 l Z a0 hw [] b43_0 p2 (2 : Int32) (1 : Int32) (2 : Nat) (upA (upA (fun _ => Value.null) 0 (Value.ref b43_1)) 1 (Value.ref b43_2)) b43_2 (nb (EE p2 v3) 1) T43.heap n0 Z43 (by decide : ¬ (1 : Int32) < (0 : Int32)) (by decide : (1 : Int32).toNatClampNeg < (2 : Nat)) (rfl : (upA (upA (fun _ => Value.null) 0 (Value.ref b43_1)) 1 (Value.ref b43_2)) (1 : Int32).toNatClampNeg = .ref b43_2) Q43_2 Q43_1 (by decide : (1 : Int32) < (2 : Int32))) hZ (hw _ (List.mem_of_getElem? (i := 21) rfl)) (hw _ (List.mem_of_getElem? (i := 3) rfl)) (by decide) (by decide)) (g := (mkF m 264 #[.val (.int p1), .val (.int p2), .val (.int (2 : Int32)), .val (.int v14), .val (.ref b15), .val (.int v26), .val (.ref b43_0)] [(.int (1 : Int32)), (.int (2 : Int32)), (.int p2), (.ref b43_0)])) rfl (by rw [hml]; rfl) (argsL := [(.ref b43_0), (.int p2), (.int (2 : Int32)), (.int (1 : Int32))]) (rest := []) (lenOf pd_7 rfl) rfl (by show 2 * 0 + _ ≤ _; exact Nat.le_of_eq rfl) (hb hby at_264) (fun _ _ => ⟨rfl, e44, (by decide : 5 + 0 ≤ _), (by decide : 34 + 0 ≤ _)⟩)
          dsimp only [Pt.U, Pt.locs, Pt.cells, Pt.slots] at X46 l46 y46 z46 st46 hQ46
          replace y46 : k46 = 5 := y46
          replace z46 : n46 = 34 := z46
          subst y46 z46
          obtain ⟨rfl, N46q, e46⟩ := hQ46
          have N46 : Fr n0 L46 := Eq.mpr (congrArg (Fr n0) l46) (Fr.app N44 N46q)
          refine Go.step st46 ?_
          show Go p e below _ (T46.setTop (mkF m 267 _ [(.int (f5 p2 (2 : Int32) (1 : Int32) (nb (EE p2 v3) 1)))]))
          by_cases hc47 : (f5 p2 (2 : Int32) (1 : Int32) (nb (EE p2 v3) 1)) = (0 : Int32)
          · exfalso
            exact own_row_2_1 hc42 hc47
          · refine Go.step (fun t k => XS.ifNo X46.here hx rfl (hb hby at_267) rfl ((if0 _ _).trans (feq hc47).1) k) ?_
            show Go p e below _ (T46.setTop (mkF m 270 _ []))
            refine gB (q := 272) X46 hx (hb hby at_270) rfl rfl rfl ?_
            refine gI (q := 273) X46 hx (hb hby at_272) rfl rfl ?_
            refine gI (q := 274) X46 hx (hb hby at_273) rfl rfl ?_
            refine gC (q := 275) (v := 2) X46 hx (hb hby at_274) rfl rfl ?_
            obtain ⟨_, _, ⟨T48, L48, k48, n48⟩, -, X48, ⟨Lc48, hQ48, l48, y48, z48⟩, st48⟩ := Jvm.LawKit.callS X46 hx (y := (⟨"com/example/hertzbid/hertzbid/ConflictPairsNeighboursPinLaw", "row", "([[IIII)Z"⟩ : MethodName)) hown (mvT hZ (hw _ (List.mem_of_getElem? (i := 19) rfl))) (mvT hZ (hw _ (List.mem_of_getElem? (i := 20) rfl))) (mvT hZ (hw _ (List.mem_of_getElem? (i := 3) rfl))) (mvT hZ (hw _ (List.mem_of_getElem? (i := 21) rfl))) (by decide) (backOf (W := 0) (rm5_ge l Z a0 hw [] b43_0 p2 (2 : Int32) (2 : Int32) T43.heap n0 Z43 (by decide : ¬ ((2 : Int32) < (2 : Int32)))) hZ (hw _ (List.mem_of_getElem? (i := 21) rfl)) (hw _ (List.mem_of_getElem? (i := 3) rfl)) (by decide) (by decide)) (g := (mkF m 275 #[.val (.int p1), .val (.int p2), .val (.int (2 : Int32)), .val (.int v14), .val (.ref b15), .val (.int v26), .val (.ref b43_0)] [(.int (2 : Int32)), (.int (2 : Int32)), (.int p2), (.ref b43_0)])) rfl (by rw [hml]; rfl) (argsL := [(.ref b43_0), (.int p2), (.int (2 : Int32)), (.int (2 : Int32))]) (rest := []) (lenOf pd_7 rfl) rfl (by show 2 * 0 + _ ≤ _; exact Nat.le_of_eq rfl) (hb hby at_275) (fun _ _ => ⟨rfl, e46, (by decide : 5 + 0 ≤ _), (by decide : 34 + 0 ≤ _)⟩)
            dsimp only [Pt.U, Pt.locs, Pt.cells, Pt.slots] at X48 l48 y48 z48 st48 hQ48
            replace y48 : k48 = 5 := y48
            replace z48 : n48 = 34 := z48
            subst y48 z48
            obtain ⟨rfl, N48q, e48⟩ := hQ48
            have N48 : Fr n0 L48 := Eq.mpr (congrArg (Fr n0) l48) (Fr.app N46 N48q)
            refine Go.step st48 ?_
            show Go p e below _ (T48.setTop (mkF m 278 _ [(.int (1 : Int32))]))
            refine Go.step (fun t k => XS.ifNo X48.here hx rfl (hb hby at_278) rfl ((if0 _ _).trans (feq (by decide : ¬ ((1 : Int32) = (0 : Int32)))).1) k) ?_
            show Go p e below _ (T48.setTop (mkF m 281 _ []))
            refine gB (q := 283) X48 hx (hb hby at_281) rfl rfl rfl ?_
            refine gI (q := 284) X48 hx (hb hby at_283) rfl rfl ?_
            refine gI (q := 285) X48 hx (hb hby at_284) rfl rfl ?_
            refine gC (q := 286) (v := 3) X48 hx (hb hby at_285) rfl rfl ?_
            obtain ⟨_, _, ⟨T49, L49, k49, n49⟩, -, X49, ⟨Lc49, hQ49, l49, y49, z49⟩, st49⟩ := Jvm.LawKit.callS X48 hx (y := (⟨"com/example/hertzbid/hertzbid/ConflictPairsNeighboursPinLaw", "row", "([[IIII)Z"⟩ : MethodName)) hown (mvT hZ (hw _ (List.mem_of_getElem? (i := 19) rfl))) (mvT hZ (hw _ (List.mem_of_getElem? (i := 20) rfl))) (mvT hZ (hw _ (List.mem_of_getElem? (i := 3) rfl))) (mvT hZ (hw _ (List.mem_of_getElem? (i := 21) rfl))) (by decide) (backOf (W := 0) (rm5_ge l Z a0 hw [] b43_0 p2 (2 : Int32) (3 : Int32) T43.heap n0 Z43 (by decide : ¬ ((3 : Int32) < (2 : Int32)))) hZ (hw _ (List.mem_of_getElem? (i := 21) rfl)) (hw _ (List.mem_of_getElem? (i := 3) rfl)) (by decide) (by decide)) (g := (mkF m 286 #[.val (.int p1), .val (.int p2), .val (.int (2 : Int32)), .val (.int v14), .val (.ref b15), .val (.int v26), .val (.ref b43_0)] [(.int (3 : Int32)), (.int (2 : Int32)), (.int p2), (.ref b43_0)])) rfl (by rw [hml]; rfl) (argsL := [(.ref b43_0), (.int p2), (.int (2 : Int32)), (.int (3 : Int32))]) (rest := []) (lenOf pd_7 rfl) rfl (by show 2 * 0 + _ ≤ _; exact Nat.le_of_eq rfl) (hb hby at_286) (fun _ _ => ⟨rfl, e48, (by decide : 5 + 0 ≤ _), (by decide : 34 + 0 ≤ _)⟩)
            dsimp only [Pt.U, Pt.locs, Pt.cells, Pt.slots] at X49 l49 y49 z49 st49 hQ49
            replace y49 : k49 = 5 := y49
            replace z49 : n49 = 34 := z49
            subst y49 z49
            obtain ⟨rfl, N49q, e49⟩ := hQ49
            have N49 : Fr n0 L49 := Eq.mpr (congrArg (Fr n0) l49) (Fr.app N48 N49q)
            refine Go.step st49 ?_
            show Go p e below _ (T49.setTop (mkF m 289 _ [(.int (1 : Int32))]))
            refine Go.step (fun t k => XS.ifNo X49.here hx rfl (hb hby at_289) rfl ((if0 _ _).trans (feq (by decide : ¬ ((1 : Int32) = (0 : Int32)))).1) k) ?_
            show Go p e below _ (T49.setTop (mkF m 292 _ []))
            refine gB (q := 294) X49 hx (hb hby at_292) rfl rfl rfl ?_
            refine gI (q := 295) X49 hx (hb hby at_294) rfl rfl ?_
            refine gI (q := 296) X49 hx (hb hby at_295) rfl rfl ?_
            refine gC (q := 297) (v := 4) X49 hx (hb hby at_296) rfl rfl ?_
            obtain ⟨_, _, ⟨T50, L50, k50, n50⟩, -, X50, ⟨Lc50, hQ50, l50, y50, z50⟩, st50⟩ := Jvm.LawKit.callS X49 hx (y := (⟨"com/example/hertzbid/hertzbid/ConflictPairsNeighboursPinLaw", "row", "([[IIII)Z"⟩ : MethodName)) hown (mvT hZ (hw _ (List.mem_of_getElem? (i := 19) rfl))) (mvT hZ (hw _ (List.mem_of_getElem? (i := 20) rfl))) (mvT hZ (hw _ (List.mem_of_getElem? (i := 3) rfl))) (mvT hZ (hw _ (List.mem_of_getElem? (i := 21) rfl))) (by decide) (backOf (W := 0) (rm5_ge l Z a0 hw [] b43_0 p2 (2 : Int32) (4 : Int32) T43.heap n0 Z43 (by decide : ¬ ((4 : Int32) < (2 : Int32)))) hZ (hw _ (List.mem_of_getElem? (i := 21) rfl)) (hw _ (List.mem_of_getElem? (i := 3) rfl)) (by decide) (by decide)) (g := (mkF m 297 #[.val (.int p1), .val (.int p2), .val (.int (2 : Int32)), .val (.int v14), .val (.ref b15), .val (.int v26), .val (.ref b43_0)] [(.int (4 : Int32)), (.int (2 : Int32)), (.int p2), (.ref b43_0)])) rfl (by rw [hml]; rfl) (argsL := [(.ref b43_0), (.int p2), (.int (2 : Int32)), (.int (4 : Int32))]) (rest := []) (lenOf pd_7 rfl) rfl (by show 2 * 0 + _ ≤ _; exact Nat.le_of_eq rfl) (hb hby at_297) (fun _ _ => ⟨rfl, e49, (by decide : 5 + 0 ≤ _), (by decide : 34 + 0 ≤ _)⟩)
            dsimp only [Pt.U, Pt.locs, Pt.cells, Pt.slots] at X50 l50 y50 z50 st50 hQ50
            replace y50 : k50 = 5 := y50
            replace z50 : n50 = 34 := z50
            subst y50 z50
            obtain ⟨rfl, N50q, e50⟩ := hQ50
            have N50 : Fr n0 L50 := Eq.mpr (congrArg (Fr n0) l50) (Fr.app N49 N50q)
            refine Go.step st50 ?_
            show Go p e below _ (T50.setTop (mkF m 300 _ [(.int (1 : Int32))]))
            refine Go.step (fun t k => XS.ifNo X50.here hx rfl (hb hby at_300) rfl ((if0 _ _).trans (feq (by decide : ¬ ((1 : Int32) = (0 : Int32)))).1) k) ?_
            show Go p e below _ (T50.setTop (mkF m 303 _ []))
            refine gC (q := 304) (v := 1) X50 hx (hb hby at_303) rfl rfl ?_
            refine Go.step (fun t k => XS.goto X50.here hx rfl (pc0 := 304) (pc' := 308) rfl (hb hby at_304) (by decide) (by decide) k) ?_
            show Go p e below _ (T50.setTop (mkF m 308 _ [(.int (1 : Int32))]))
            subst hv14
            subst hv3
            exact retGN X50 hx Bd.notSynchronized Bd.returns (t := .boolean) (by simp) (z' := (1 : Int32)) rfl (hb hby at_308) ⟨by first | (simp only [f0, if_neg hc27, if_neg hc34, if_pos hc42, if_neg hc45, if_neg hc47]; done) | rfl | (simp [f0, if_neg hc27, if_neg hc34, if_pos hc42, if_neg hc45, if_neg hc47]; done), N50⟩ (by decide) (by decide)
      · skip
        by_cases hc51 : v3 = (3 : Int32)
        · rw [hc51]
          show Go p e below _ (T25.setTop (mkF m 226 _ []))
          refine gI (q := 227) X25 hx (hb hby at_226) rfl rfl ?_
          refine gB (q := 229) X25 hx (hb hby at_227) rfl rfl rfl ?_
          obtain ⟨_, _, ⟨T52, L52, k52, n52⟩, -, X52, ⟨Lc52, hQ52, l52, y52, z52⟩, st52⟩ := Jvm.LawKit.callS X25 hx (y := (⟨"com/example/hertzbid/hertzbid/ConflictPairs", "neighbours", "(I[J)[[I"⟩ : MethodName)) hown (mvT hZ (hw _ (List.mem_of_getElem? (i := 12) rfl))) (mvT hZ (hw _ (List.mem_of_getElem? (i := 13) rfl))) (mvT hZ (hw _ (List.mem_of_getElem? (i := 14) rfl))) (mvT hZ (hw _ (List.mem_of_getElem? (i := 15) rfl))) (by decide) (backOf (W := 0) (rm4_3 l Z a0 hw [] b15 (EE p2 v3) T25.heap n0 Z25 (own_10 p2 v3 : (EE p2 v3).length ≤ 10) (own_E_3 hc51 : ∀ p ∈ (EE p2 v3), p = (0, 1) ∨ p = (0, 2) ∨ p = (1, 2)) Q25_0) hZ (hw _ (List.mem_of_getElem? (i := 15) rfl)) (hw _ (List.mem_of_getElem? (i := 14) rfl)) (by decide) (by decide)) (g := (mkF m 229 #[.val (.int p1), .val (.int p2), .val (.int (3 : Int32)), .val (.int v14), .val (.ref b15), .val (.int v26), .unset] [(.ref b15), (.int (3 : Int32))])) rfl (by rw [hml]; rfl) (argsL := [(.int (3 : Int32)), (.ref b15)]) (rest := []) (lenOf pd_6 rfl) rfl (by show 2 * 0 + _ ≤ _; exact Nat.le_of_eq rfl) (hb hby at_229) (fun _ _ => ⟨rfl, rfl, (by decide : 1 + 5 ≤ _), (by decide : 10 + 36 ≤ _)⟩)
          dsimp only [Pt.U, Pt.locs, Pt.cells, Pt.slots] at X52 l52 y52 z52 st52 hQ52
          replace y52 : k52 = 6 := y52
          replace z52 : n52 = 46 := z52
          subst y52 z52
          obtain ⟨b52_0, b52_1, b52_2, b52_3, rfl, N52q, K52, sz52_0, sz52_1, sz52_2, sz52_3, Q52_0, Q52_1, Q52_2, Q52_3⟩ := hQ52
          have N52 : Fr n0 L52 := Eq.mpr (congrArg (Fr n0) l52) (Fr.app N25 N52q)
          have g_b52_0 : n0 ≤ b52_0 := Nat.le_trans Z25 sz52_0
          have sz_b52_0 : h0.size ≤ b52_0 := Nat.le_trans KK25.1 sz52_0
          have ne_b15_b52_0 : b15 ≠ b52_0 := Nat.ne_of_lt (Nat.lt_of_lt_of_le Q25_0.lt sz52_0)
          have g_b52_1 : n0 ≤ b52_1 := Nat.le_trans Z25 sz52_1
          have sz_b52_1 : h0.size ≤ b52_1 := Nat.le_trans KK25.1 sz52_1
          have ne_b15_b52_1 : b15 ≠ b52_1 := Nat.ne_of_lt (Nat.lt_of_lt_of_le Q25_0.lt sz52_1)
          have g_b52_2 : n0 ≤ b52_2 := Nat.le_trans Z25 sz52_2
          have sz_b52_2 : h0.size ≤ b52_2 := Nat.le_trans KK25.1 sz52_2
          have ne_b15_b52_2 : b15 ≠ b52_2 := Nat.ne_of_lt (Nat.lt_of_lt_of_le Q25_0.lt sz52_2)
          have g_b52_3 : n0 ≤ b52_3 := Nat.le_trans Z25 sz52_3
          have sz_b52_3 : h0.size ≤ b52_3 := Nat.le_trans KK25.1 sz52_3
          have ne_b15_b52_3 : b15 ≠ b52_3 := Nat.ne_of_lt (Nat.lt_of_lt_of_le Q25_0.lt sz52_3)
          have A_b15_52 := Q25_0.keep K52 nin0
          have Z52 := Nat.le_trans Z25 K52.1
          have KK52 : Keep h0 T52.heap [] := KK25.trans K52 all0
          refine Go.step st52 ?_
          show Go p e below _ (T52.setTop (mkF m 232 _ [(.ref b52_0)]))
          refine Go.step (fun t k => XS.astore X52.here hx rfl (hb hby at_232) rfl rfl (l' := #[.val (.int p1), .val (.int p2), .val (.int (3 : Int32)), .val (.int v14), .val (.ref b15), .val (.int v26), .val (.ref b52_0)]) rfl k) ?_
          show Go p e below _ (T52.setTop (mkF m 234 _ []))
          refine gB (q := 236) X52 hx (hb hby at_234) rfl rfl rfl ?_
          refine Go.step (fun t k => XS.ifnullNo X52.here hx rfl (hb hby at_236) rfl k) ?_
          show Go p e below _ (T52.setTop (mkF m 239 _ []))
          refine gB (q := 241) X52 hx (hb hby at_239) rfl rfl rfl ?_
          refine Go.step (lenA X52 hx hZ rfl Q52_3.ary (g := (mkF m 241 _ [(.ref b52_0)])) rfl rfl (hb hby at_241)) ?_
          show Go p e below _ (T52.setTop (mkF m 242 _ [(.int (3 : Int32))]))
          refine gI (q := 243) X52 hx (hb hby at_242) rfl rfl ?_
          refine Go.step (fun t k => XS.icmpYes X52.here hx rfl (pc0 := 243) (pc' := 248) rfl (hb hby at_243) rfl (teq (rfl : (3 : Int32) = (3 : Int32))).1 (by decide) (by decide) k) ?_
          show Go p e below _ (T52.setTop (mkF m 248 _ []))
          refine gB (q := 250) X52 hx (hb hby at_248) rfl rfl rfl ?_
          refine gI (q := 251) X52 hx (hb hby at_250) rfl rfl ?_
          refine gI (q := 252) X52 hx (hb hby at_251) rfl rfl ?_
          refine gC (q := 253) (v := 0) X52 hx (hb hby at_252) rfl rfl ?_
          obtain ⟨_, _, ⟨T53, L53, k53, n53⟩, -, X53, ⟨Lc53, hQ53, l53, y53, z53⟩, st53⟩ := Jvm.LawKit.callS X52 hx (y := (⟨"com/example/hertzbid/hertzbid/ConflictPairsNeighboursPinLaw", "row", "([[IIII)Z"⟩ : MethodName)) hown (mvT hZ (hw _ (List.mem_of_getElem? (i := 19) rfl))) (mvT hZ (hw _ (List.mem_of_getElem? (i := 20) rfl))) (mvT hZ (hw _ (List.mem_of_getElem? (i := 3) rfl))) (mvT hZ (hw _ (List.mem_of_getElem? (i := 21) rfl))) (by decide) (backOf (W := 0) (rm5 l Z a0 hw [] b52_0 p2 (3 : Int32) (0 : Int32) (3 : Nat) (upA (upA (upA (fun _ => Value.null) 0 (Value.ref b52_1)) 1 (Value.ref b52_2)) 2 (Value.ref b52_3)) b52_1 (nb (EE p2 v3) 0) T52.heap n0 Z52 (by decide : ¬ (0 : Int32) < (0 : Int32)) (by decide : (0 : Int32).toNatClampNeg < (3 : Nat)) (rfl : (upA (upA (upA (fun _ => Value.null) 0 (Value.ref b52_1)) 1 (Value.ref b52_2)) 2 (Value.ref b52_3)) (0 : Int32).toNatClampNeg = .ref b52_1) Q52_3 Q52_0 (by decide : (0 : Int32) < (3 : Int32))) hZ (hw _ (List.mem_of_getElem? (i := 21) rfl)) (hw _ (List.mem_of_getElem? (i := 3) rfl)) (by decide) (by decide)) (g := (mkF m 253 #[.val (.int p1), .val (.int p2), .val (.int (3 : Int32)), .val (.int v14), .val (.ref b15), .val (.int v26), .val (.ref b52_0)] [(.int (0 : Int32)), (.int (3 : Int32)), (.int p2), (.ref b52_0)])) rfl (by rw [hml]; rfl) (argsL := [(.ref b52_0), (.int p2), (.int (3 : Int32)), (.int (0 : Int32))]) (rest := []) (lenOf pd_7 rfl) rfl (by show 2 * 0 + _ ≤ _; exact Nat.le_of_eq rfl) (hb hby at_253) (fun _ _ => ⟨rfl, rfl, (by decide : 6 + 0 ≤ _), (by decide : 46 + 0 ≤ _)⟩)
          dsimp only [Pt.U, Pt.locs, Pt.cells, Pt.slots] at X53 l53 y53 z53 st53 hQ53
          replace y53 : k53 = 6 := y53
          replace z53 : n53 = 46 := z53
          subst y53 z53
          obtain ⟨rfl, N53q, e53⟩ := hQ53
          have N53 : Fr n0 L53 := Eq.mpr (congrArg (Fr n0) l53) (Fr.app N52 N53q)
          refine Go.step st53 ?_
          show Go p e below _ (T53.setTop (mkF m 256 _ [(.int (f5 p2 (3 : Int32) (0 : Int32) (nb (EE p2 v3) 0)))]))
          by_cases hc54 : (f5 p2 (3 : Int32) (0 : Int32) (nb (EE p2 v3) 0)) = (0 : Int32)
          · exfalso
            exact own_row_3_0 hc51 hc54
          · refine Go.step (fun t k => XS.ifNo X53.here hx rfl (hb hby at_256) rfl ((if0 _ _).trans (feq hc54).1) k) ?_
            show Go p e below _ (T53.setTop (mkF m 259 _ []))
            refine gB (q := 261) X53 hx (hb hby at_259) rfl rfl rfl ?_
            refine gI (q := 262) X53 hx (hb hby at_261) rfl rfl ?_
            refine gI (q := 263) X53 hx (hb hby at_262) rfl rfl ?_
            refine gC (q := 264) (v := 1) X53 hx (hb hby at_263) rfl rfl ?_
            obtain ⟨_, _, ⟨T55, L55, k55, n55⟩, -, X55, ⟨Lc55, hQ55, l55, y55, z55⟩, st55⟩ := Jvm.LawKit.callS X53 hx (y := (⟨"com/example/hertzbid/hertzbid/ConflictPairsNeighboursPinLaw", "row", "([[IIII)Z"⟩ : MethodName)) hown (mvT hZ (hw _ (List.mem_of_getElem? (i := 19) rfl))) (mvT hZ (hw _ (List.mem_of_getElem? (i := 20) rfl))) (mvT hZ (hw _ (List.mem_of_getElem? (i := 3) rfl))) (mvT hZ (hw _ (List.mem_of_getElem? (i := 21) rfl))) (by decide) (backOf (W := 0) (rm5 l Z a0 hw [] b52_0 p2 (3 : Int32) (1 : Int32) (3 : Nat) (upA (upA (upA (fun _ => Value.null) 0 (Value.ref b52_1)) 1 (Value.ref b52_2)) 2 (Value.ref b52_3)) b52_2 (nb (EE p2 v3) 1) T52.heap n0 Z52 (by decide : ¬ (1 : Int32) < (0 : Int32)) (by decide : (1 : Int32).toNatClampNeg < (3 : Nat)) (rfl : (upA (upA (upA (fun _ => Value.null) 0 (Value.ref b52_1)) 1 (Value.ref b52_2)) 2 (Value.ref b52_3)) (1 : Int32).toNatClampNeg = .ref b52_2) Q52_3 Q52_1 (by decide : (1 : Int32) < (3 : Int32))) hZ (hw _ (List.mem_of_getElem? (i := 21) rfl)) (hw _ (List.mem_of_getElem? (i := 3) rfl)) (by decide) (by decide)) (g := (mkF m 264 #[.val (.int p1), .val (.int p2), .val (.int (3 : Int32)), .val (.int v14), .val (.ref b15), .val (.int v26), .val (.ref b52_0)] [(.int (1 : Int32)), (.int (3 : Int32)), (.int p2), (.ref b52_0)])) rfl (by rw [hml]; rfl) (argsL := [(.ref b52_0), (.int p2), (.int (3 : Int32)), (.int (1 : Int32))]) (rest := []) (lenOf pd_7 rfl) rfl (by show 2 * 0 + _ ≤ _; exact Nat.le_of_eq rfl) (hb hby at_264) (fun _ _ => ⟨rfl, e53, (by decide : 6 + 0 ≤ _), (by decide : 46 + 0 ≤ _)⟩)
            dsimp only [Pt.U, Pt.locs, Pt.cells, Pt.slots] at X55 l55 y55 z55 st55 hQ55
            replace y55 : k55 = 6 := y55
            replace z55 : n55 = 46 := z55
            subst y55 z55
            obtain ⟨rfl, N55q, e55⟩ := hQ55
            have N55 : Fr n0 L55 := Eq.mpr (congrArg (Fr n0) l55) (Fr.app N53 N55q)
            refine Go.step st55 ?_
            show Go p e below _ (T55.setTop (mkF m 267 _ [(.int (f5 p2 (3 : Int32) (1 : Int32) (nb (EE p2 v3) 1)))]))
            by_cases hc56 : (f5 p2 (3 : Int32) (1 : Int32) (nb (EE p2 v3) 1)) = (0 : Int32)
            · exfalso
              exact own_row_3_1 hc51 hc56
            · refine Go.step (fun t k => XS.ifNo X55.here hx rfl (hb hby at_267) rfl ((if0 _ _).trans (feq hc56).1) k) ?_
              show Go p e below _ (T55.setTop (mkF m 270 _ []))
              refine gB (q := 272) X55 hx (hb hby at_270) rfl rfl rfl ?_
              refine gI (q := 273) X55 hx (hb hby at_272) rfl rfl ?_
              refine gI (q := 274) X55 hx (hb hby at_273) rfl rfl ?_
              refine gC (q := 275) (v := 2) X55 hx (hb hby at_274) rfl rfl ?_
              obtain ⟨_, _, ⟨T57, L57, k57, n57⟩, -, X57, ⟨Lc57, hQ57, l57, y57, z57⟩, st57⟩ := Jvm.LawKit.callS X55 hx (y := (⟨"com/example/hertzbid/hertzbid/ConflictPairsNeighboursPinLaw", "row", "([[IIII)Z"⟩ : MethodName)) hown (mvT hZ (hw _ (List.mem_of_getElem? (i := 19) rfl))) (mvT hZ (hw _ (List.mem_of_getElem? (i := 20) rfl))) (mvT hZ (hw _ (List.mem_of_getElem? (i := 3) rfl))) (mvT hZ (hw _ (List.mem_of_getElem? (i := 21) rfl))) (by decide) (backOf (W := 0) (rm5 l Z a0 hw [] b52_0 p2 (3 : Int32) (2 : Int32) (3 : Nat) (upA (upA (upA (fun _ => Value.null) 0 (Value.ref b52_1)) 1 (Value.ref b52_2)) 2 (Value.ref b52_3)) b52_3 (nb (EE p2 v3) 2) T52.heap n0 Z52 (by decide : ¬ (2 : Int32) < (0 : Int32)) (by decide : (2 : Int32).toNatClampNeg < (3 : Nat)) (rfl : (upA (upA (upA (fun _ => Value.null) 0 (Value.ref b52_1)) 1 (Value.ref b52_2)) 2 (Value.ref b52_3)) (2 : Int32).toNatClampNeg = .ref b52_3) Q52_3 Q52_2 (by decide : (2 : Int32) < (3 : Int32))) hZ (hw _ (List.mem_of_getElem? (i := 21) rfl)) (hw _ (List.mem_of_getElem? (i := 3) rfl)) (by decide) (by decide)) (g := (mkF m 275 #[.val (.int p1), .val (.int p2), .val (.int (3 : Int32)), .val (.int v14), .val (.ref b15), .val (.int v26), .val (.ref b52_0)] [(.int (2 : Int32)), (.int (3 : Int32)), (.int p2), (.ref b52_0)])) rfl (by rw [hml]; rfl) (argsL := [(.ref b52_0), (.int p2), (.int (3 : Int32)), (.int (2 : Int32))]) (rest := []) (lenOf pd_7 rfl) rfl (by show 2 * 0 + _ ≤ _; exact Nat.le_of_eq rfl) (hb hby at_275) (fun _ _ => ⟨rfl, e55, (by decide : 6 + 0 ≤ _), (by decide : 46 + 0 ≤ _)⟩)
              dsimp only [Pt.U, Pt.locs, Pt.cells, Pt.slots] at X57 l57 y57 z57 st57 hQ57
              replace y57 : k57 = 6 := y57
              replace z57 : n57 = 46 := z57
              subst y57 z57
              obtain ⟨rfl, N57q, e57⟩ := hQ57
              have N57 : Fr n0 L57 := Eq.mpr (congrArg (Fr n0) l57) (Fr.app N55 N57q)
              refine Go.step st57 ?_
              show Go p e below _ (T57.setTop (mkF m 278 _ [(.int (f5 p2 (3 : Int32) (2 : Int32) (nb (EE p2 v3) 2)))]))
              by_cases hc58 : (f5 p2 (3 : Int32) (2 : Int32) (nb (EE p2 v3) 2)) = (0 : Int32)
              · exfalso
                exact own_row_3_2 hc51 hc58
              · refine Go.step (fun t k => XS.ifNo X57.here hx rfl (hb hby at_278) rfl ((if0 _ _).trans (feq hc58).1) k) ?_
                show Go p e below _ (T57.setTop (mkF m 281 _ []))
                refine gB (q := 283) X57 hx (hb hby at_281) rfl rfl rfl ?_
                refine gI (q := 284) X57 hx (hb hby at_283) rfl rfl ?_
                refine gI (q := 285) X57 hx (hb hby at_284) rfl rfl ?_
                refine gC (q := 286) (v := 3) X57 hx (hb hby at_285) rfl rfl ?_
                obtain ⟨_, _, ⟨T59, L59, k59, n59⟩, -, X59, ⟨Lc59, hQ59, l59, y59, z59⟩, st59⟩ := Jvm.LawKit.callS X57 hx (y := (⟨"com/example/hertzbid/hertzbid/ConflictPairsNeighboursPinLaw", "row", "([[IIII)Z"⟩ : MethodName)) hown (mvT hZ (hw _ (List.mem_of_getElem? (i := 19) rfl))) (mvT hZ (hw _ (List.mem_of_getElem? (i := 20) rfl))) (mvT hZ (hw _ (List.mem_of_getElem? (i := 3) rfl))) (mvT hZ (hw _ (List.mem_of_getElem? (i := 21) rfl))) (by decide) (backOf (W := 0) (rm5_ge l Z a0 hw [] b52_0 p2 (3 : Int32) (3 : Int32) T52.heap n0 Z52 (by decide : ¬ ((3 : Int32) < (3 : Int32)))) hZ (hw _ (List.mem_of_getElem? (i := 21) rfl)) (hw _ (List.mem_of_getElem? (i := 3) rfl)) (by decide) (by decide)) (g := (mkF m 286 #[.val (.int p1), .val (.int p2), .val (.int (3 : Int32)), .val (.int v14), .val (.ref b15), .val (.int v26), .val (.ref b52_0)] [(.int (3 : Int32)), (.int (3 : Int32)), (.int p2), (.ref b52_0)])) rfl (by rw [hml]; rfl) (argsL := [(.ref b52_0), (.int p2), (.int (3 : Int32)), (.int (3 : Int32))]) (rest := []) (lenOf pd_7 rfl) rfl (by show 2 * 0 + _ ≤ _; exact Nat.le_of_eq rfl) (hb hby at_286) (fun _ _ => ⟨rfl, e57, (by decide : 6 + 0 ≤ _), (by decide : 46 + 0 ≤ _)⟩)
                dsimp only [Pt.U, Pt.locs, Pt.cells, Pt.slots] at X59 l59 y59 z59 st59 hQ59
                replace y59 : k59 = 6 := y59
                replace z59 : n59 = 46 := z59
                subst y59 z59
                obtain ⟨rfl, N59q, e59⟩ := hQ59
                have N59 : Fr n0 L59 := Eq.mpr (congrArg (Fr n0) l59) (Fr.app N57 N59q)
                refine Go.step st59 ?_
                show Go p e below _ (T59.setTop (mkF m 289 _ [(.int (1 : Int32))]))
                refine Go.step (fun t k => XS.ifNo X59.here hx rfl (hb hby at_289) rfl ((if0 _ _).trans (feq (by decide : ¬ ((1 : Int32) = (0 : Int32)))).1) k) ?_
                show Go p e below _ (T59.setTop (mkF m 292 _ []))
                refine gB (q := 294) X59 hx (hb hby at_292) rfl rfl rfl ?_
                refine gI (q := 295) X59 hx (hb hby at_294) rfl rfl ?_
                refine gI (q := 296) X59 hx (hb hby at_295) rfl rfl ?_
                refine gC (q := 297) (v := 4) X59 hx (hb hby at_296) rfl rfl ?_
                obtain ⟨_, _, ⟨T60, L60, k60, n60⟩, -, X60, ⟨Lc60, hQ60, l60, y60, z60⟩, st60⟩ := Jvm.LawKit.callS X59 hx (y := (⟨"com/example/hertzbid/hertzbid/ConflictPairsNeighboursPinLaw", "row", "([[IIII)Z"⟩ : MethodName)) hown (mvT hZ (hw _ (List.mem_of_getElem? (i := 19) rfl))) (mvT hZ (hw _ (List.mem_of_getElem? (i := 20) rfl))) (mvT hZ (hw _ (List.mem_of_getElem? (i := 3) rfl))) (mvT hZ (hw _ (List.mem_of_getElem? (i := 21) rfl))) (by decide) (backOf (W := 0) (rm5_ge l Z a0 hw [] b52_0 p2 (3 : Int32) (4 : Int32) T52.heap n0 Z52 (by decide : ¬ ((4 : Int32) < (3 : Int32)))) hZ (hw _ (List.mem_of_getElem? (i := 21) rfl)) (hw _ (List.mem_of_getElem? (i := 3) rfl)) (by decide) (by decide)) (g := (mkF m 297 #[.val (.int p1), .val (.int p2), .val (.int (3 : Int32)), .val (.int v14), .val (.ref b15), .val (.int v26), .val (.ref b52_0)] [(.int (4 : Int32)), (.int (3 : Int32)), (.int p2), (.ref b52_0)])) rfl (by rw [hml]; rfl) (argsL := [(.ref b52_0), (.int p2), (.int (3 : Int32)), (.int (4 : Int32))]) (rest := []) (lenOf pd_7 rfl) rfl (by show 2 * 0 + _ ≤ _; exact Nat.le_of_eq rfl) (hb hby at_297) (fun _ _ => ⟨rfl, e59, (by decide : 6 + 0 ≤ _), (by decide : 46 + 0 ≤ _)⟩)
                dsimp only [Pt.U, Pt.locs, Pt.cells, Pt.slots] at X60 l60 y60 z60 st60 hQ60
                replace y60 : k60 = 6 := y60
                replace z60 : n60 = 46 := z60
                subst y60 z60
                obtain ⟨rfl, N60q, e60⟩ := hQ60
                have N60 : Fr n0 L60 := Eq.mpr (congrArg (Fr n0) l60) (Fr.app N59 N60q)
                refine Go.step st60 ?_
                show Go p e below _ (T60.setTop (mkF m 300 _ [(.int (1 : Int32))]))
                refine Go.step (fun t k => XS.ifNo X60.here hx rfl (hb hby at_300) rfl ((if0 _ _).trans (feq (by decide : ¬ ((1 : Int32) = (0 : Int32)))).1) k) ?_
                show Go p e below _ (T60.setTop (mkF m 303 _ []))
                refine gC (q := 304) (v := 1) X60 hx (hb hby at_303) rfl rfl ?_
                refine Go.step (fun t k => XS.goto X60.here hx rfl (pc0 := 304) (pc' := 308) rfl (hb hby at_304) (by decide) (by decide) k) ?_
                show Go p e below _ (T60.setTop (mkF m 308 _ [(.int (1 : Int32))]))
                subst hv14
                subst hv3
                exact retGN X60 hx Bd.notSynchronized Bd.returns (t := .boolean) (by simp) (z' := (1 : Int32)) rfl (hb hby at_308) ⟨by first | (simp only [f0, if_neg hc27, if_neg hc34, if_neg hc42, if_pos hc51, if_neg hc54, if_neg hc56, if_neg hc58]; done) | rfl | (simp [f0, if_neg hc27, if_neg hc34, if_neg hc42, if_pos hc51, if_neg hc54, if_neg hc56, if_neg hc58]; done), N60⟩ (by decide) (by decide)
        · skip
          by_cases hc61 : v3 = (4 : Int32)
          · rw [hc61]
            show Go p e below _ (T25.setTop (mkF m 226 _ []))
            refine gI (q := 227) X25 hx (hb hby at_226) rfl rfl ?_
            refine gB (q := 229) X25 hx (hb hby at_227) rfl rfl rfl ?_
            obtain ⟨_, _, ⟨T62, L62, k62, n62⟩, -, X62, ⟨Lc62, hQ62, l62, y62, z62⟩, st62⟩ := Jvm.LawKit.callS X25 hx (y := (⟨"com/example/hertzbid/hertzbid/ConflictPairs", "neighbours", "(I[J)[[I"⟩ : MethodName)) hown (mvT hZ (hw _ (List.mem_of_getElem? (i := 12) rfl))) (mvT hZ (hw _ (List.mem_of_getElem? (i := 13) rfl))) (mvT hZ (hw _ (List.mem_of_getElem? (i := 14) rfl))) (mvT hZ (hw _ (List.mem_of_getElem? (i := 15) rfl))) (by decide) (backOf (W := 0) (rm4_4 l Z a0 hw [] b15 (EE p2 v3) T25.heap n0 Z25 (own_10 p2 v3 : (EE p2 v3).length ≤ 10) (own_E_4 hc61 : ∀ p ∈ (EE p2 v3), p = (0, 1) ∨ p = (0, 2) ∨ p = (0, 3) ∨ p = (1, 2) ∨ p = (1, 3) ∨ p = (2, 3)) Q25_0) hZ (hw _ (List.mem_of_getElem? (i := 15) rfl)) (hw _ (List.mem_of_getElem? (i := 14) rfl)) (by decide) (by decide)) (g := (mkF m 229 #[.val (.int p1), .val (.int p2), .val (.int (4 : Int32)), .val (.int v14), .val (.ref b15), .val (.int v26), .unset] [(.ref b15), (.int (4 : Int32))])) rfl (by rw [hml]; rfl) (argsL := [(.int (4 : Int32)), (.ref b15)]) (rest := []) (lenOf pd_6 rfl) rfl (by show 2 * 0 + _ ≤ _; exact Nat.le_of_eq rfl) (hb hby at_229) (fun _ _ => ⟨rfl, rfl, (by decide : 1 + 6 ≤ _), (by decide : 10 + 48 ≤ _)⟩)
            dsimp only [Pt.U, Pt.locs, Pt.cells, Pt.slots] at X62 l62 y62 z62 st62 hQ62
            replace y62 : k62 = 7 := y62
            replace z62 : n62 = 58 := z62
            subst y62 z62
            obtain ⟨b62_0, b62_1, b62_2, b62_3, b62_4, rfl, N62q, K62, sz62_0, sz62_1, sz62_2, sz62_3, sz62_4, Q62_0, Q62_1, Q62_2, Q62_3, Q62_4⟩ := hQ62
            have N62 : Fr n0 L62 := Eq.mpr (congrArg (Fr n0) l62) (Fr.app N25 N62q)
            have g_b62_0 : n0 ≤ b62_0 := Nat.le_trans Z25 sz62_0
            have sz_b62_0 : h0.size ≤ b62_0 := Nat.le_trans KK25.1 sz62_0
            have ne_b15_b62_0 : b15 ≠ b62_0 := Nat.ne_of_lt (Nat.lt_of_lt_of_le Q25_0.lt sz62_0)
            have g_b62_1 : n0 ≤ b62_1 := Nat.le_trans Z25 sz62_1
            have sz_b62_1 : h0.size ≤ b62_1 := Nat.le_trans KK25.1 sz62_1
            have ne_b15_b62_1 : b15 ≠ b62_1 := Nat.ne_of_lt (Nat.lt_of_lt_of_le Q25_0.lt sz62_1)
            have g_b62_2 : n0 ≤ b62_2 := Nat.le_trans Z25 sz62_2
            have sz_b62_2 : h0.size ≤ b62_2 := Nat.le_trans KK25.1 sz62_2
            have ne_b15_b62_2 : b15 ≠ b62_2 := Nat.ne_of_lt (Nat.lt_of_lt_of_le Q25_0.lt sz62_2)
            have g_b62_3 : n0 ≤ b62_3 := Nat.le_trans Z25 sz62_3
            have sz_b62_3 : h0.size ≤ b62_3 := Nat.le_trans KK25.1 sz62_3
            have ne_b15_b62_3 : b15 ≠ b62_3 := Nat.ne_of_lt (Nat.lt_of_lt_of_le Q25_0.lt sz62_3)
            have g_b62_4 : n0 ≤ b62_4 := Nat.le_trans Z25 sz62_4
            have sz_b62_4 : h0.size ≤ b62_4 := Nat.le_trans KK25.1 sz62_4
            have ne_b15_b62_4 : b15 ≠ b62_4 := Nat.ne_of_lt (Nat.lt_of_lt_of_le Q25_0.lt sz62_4)
            have A_b15_62 := Q25_0.keep K62 nin0
            have Z62 := Nat.le_trans Z25 K62.1
            have KK62 : Keep h0 T62.heap [] := KK25.trans K62 all0
            refine Go.step st62 ?_
            show Go p e below _ (T62.setTop (mkF m 232 _ [(.ref b62_0)]))
            refine Go.step (fun t k => XS.astore X62.here hx rfl (hb hby at_232) rfl rfl (l' := #[.val (.int p1), .val (.int p2), .val (.int (4 : Int32)), .val (.int v14), .val (.ref b15), .val (.int v26), .val (.ref b62_0)]) rfl k) ?_
            show Go p e below _ (T62.setTop (mkF m 234 _ []))
            refine gB (q := 236) X62 hx (hb hby at_234) rfl rfl rfl ?_
            refine Go.step (fun t k => XS.ifnullNo X62.here hx rfl (hb hby at_236) rfl k) ?_
            show Go p e below _ (T62.setTop (mkF m 239 _ []))
            refine gB (q := 241) X62 hx (hb hby at_239) rfl rfl rfl ?_
            refine Go.step (lenA X62 hx hZ rfl Q62_4.ary (g := (mkF m 241 _ [(.ref b62_0)])) rfl rfl (hb hby at_241)) ?_
            show Go p e below _ (T62.setTop (mkF m 242 _ [(.int (4 : Int32))]))
            refine gI (q := 243) X62 hx (hb hby at_242) rfl rfl ?_
            refine Go.step (fun t k => XS.icmpYes X62.here hx rfl (pc0 := 243) (pc' := 248) rfl (hb hby at_243) rfl (teq (rfl : (4 : Int32) = (4 : Int32))).1 (by decide) (by decide) k) ?_
            show Go p e below _ (T62.setTop (mkF m 248 _ []))
            refine gB (q := 250) X62 hx (hb hby at_248) rfl rfl rfl ?_
            refine gI (q := 251) X62 hx (hb hby at_250) rfl rfl ?_
            refine gI (q := 252) X62 hx (hb hby at_251) rfl rfl ?_
            refine gC (q := 253) (v := 0) X62 hx (hb hby at_252) rfl rfl ?_
            obtain ⟨_, _, ⟨T63, L63, k63, n63⟩, -, X63, ⟨Lc63, hQ63, l63, y63, z63⟩, st63⟩ := Jvm.LawKit.callS X62 hx (y := (⟨"com/example/hertzbid/hertzbid/ConflictPairsNeighboursPinLaw", "row", "([[IIII)Z"⟩ : MethodName)) hown (mvT hZ (hw _ (List.mem_of_getElem? (i := 19) rfl))) (mvT hZ (hw _ (List.mem_of_getElem? (i := 20) rfl))) (mvT hZ (hw _ (List.mem_of_getElem? (i := 3) rfl))) (mvT hZ (hw _ (List.mem_of_getElem? (i := 21) rfl))) (by decide) (backOf (W := 0) (rm5 l Z a0 hw [] b62_0 p2 (4 : Int32) (0 : Int32) (4 : Nat) (upA (upA (upA (upA (fun _ => Value.null) 0 (Value.ref b62_1)) 1 (Value.ref b62_2)) 2 (Value.ref b62_3)) 3 (Value.ref b62_4)) b62_1 (nb (EE p2 v3) 0) T62.heap n0 Z62 (by decide : ¬ (0 : Int32) < (0 : Int32)) (by decide : (0 : Int32).toNatClampNeg < (4 : Nat)) (rfl : (upA (upA (upA (upA (fun _ => Value.null) 0 (Value.ref b62_1)) 1 (Value.ref b62_2)) 2 (Value.ref b62_3)) 3 (Value.ref b62_4)) (0 : Int32).toNatClampNeg = .ref b62_1) Q62_4 Q62_0 (by decide : (0 : Int32) < (4 : Int32))) hZ (hw _ (List.mem_of_getElem? (i := 21) rfl)) (hw _ (List.mem_of_getElem? (i := 3) rfl)) (by decide) (by decide)) (g := (mkF m 253 #[.val (.int p1), .val (.int p2), .val (.int (4 : Int32)), .val (.int v14), .val (.ref b15), .val (.int v26), .val (.ref b62_0)] [(.int (0 : Int32)), (.int (4 : Int32)), (.int p2), (.ref b62_0)])) rfl (by rw [hml]; rfl) (argsL := [(.ref b62_0), (.int p2), (.int (4 : Int32)), (.int (0 : Int32))]) (rest := []) (lenOf pd_7 rfl) rfl (by show 2 * 0 + _ ≤ _; exact Nat.le_of_eq rfl) (hb hby at_253) (fun _ _ => ⟨rfl, rfl, (by decide : 7 + 0 ≤ _), (by decide : 58 + 0 ≤ _)⟩)
            dsimp only [Pt.U, Pt.locs, Pt.cells, Pt.slots] at X63 l63 y63 z63 st63 hQ63
            replace y63 : k63 = 7 := y63
            replace z63 : n63 = 58 := z63
            subst y63 z63
            obtain ⟨rfl, N63q, e63⟩ := hQ63
            have N63 : Fr n0 L63 := Eq.mpr (congrArg (Fr n0) l63) (Fr.app N62 N63q)
            refine Go.step st63 ?_
            show Go p e below _ (T63.setTop (mkF m 256 _ [(.int (f5 p2 (4 : Int32) (0 : Int32) (nb (EE p2 v3) 0)))]))
            by_cases hc64 : (f5 p2 (4 : Int32) (0 : Int32) (nb (EE p2 v3) 0)) = (0 : Int32)
            · exfalso
              exact own_row_4_0 hc61 hc64
            · refine Go.step (fun t k => XS.ifNo X63.here hx rfl (hb hby at_256) rfl ((if0 _ _).trans (feq hc64).1) k) ?_
              show Go p e below _ (T63.setTop (mkF m 259 _ []))
              refine gB (q := 261) X63 hx (hb hby at_259) rfl rfl rfl ?_
              refine gI (q := 262) X63 hx (hb hby at_261) rfl rfl ?_
              refine gI (q := 263) X63 hx (hb hby at_262) rfl rfl ?_
              refine gC (q := 264) (v := 1) X63 hx (hb hby at_263) rfl rfl ?_
              obtain ⟨_, _, ⟨T65, L65, k65, n65⟩, -, X65, ⟨Lc65, hQ65, l65, y65, z65⟩, st65⟩ := Jvm.LawKit.callS X63 hx (y := (⟨"com/example/hertzbid/hertzbid/ConflictPairsNeighboursPinLaw", "row", "([[IIII)Z"⟩ : MethodName)) hown (mvT hZ (hw _ (List.mem_of_getElem? (i := 19) rfl))) (mvT hZ (hw _ (List.mem_of_getElem? (i := 20) rfl))) (mvT hZ (hw _ (List.mem_of_getElem? (i := 3) rfl))) (mvT hZ (hw _ (List.mem_of_getElem? (i := 21) rfl))) (by decide) (backOf (W := 0) (rm5 l Z a0 hw [] b62_0 p2 (4 : Int32) (1 : Int32) (4 : Nat) (upA (upA (upA (upA (fun _ => Value.null) 0 (Value.ref b62_1)) 1 (Value.ref b62_2)) 2 (Value.ref b62_3)) 3 (Value.ref b62_4)) b62_2 (nb (EE p2 v3) 1) T62.heap n0 Z62 (by decide : ¬ (1 : Int32) < (0 : Int32)) (by decide : (1 : Int32).toNatClampNeg < (4 : Nat)) (rfl : (upA (upA (upA (upA (fun _ => Value.null) 0 (Value.ref b62_1)) 1 (Value.ref b62_2)) 2 (Value.ref b62_3)) 3 (Value.ref b62_4)) (1 : Int32).toNatClampNeg = .ref b62_2) Q62_4 Q62_1 (by decide : (1 : Int32) < (4 : Int32))) hZ (hw _ (List.mem_of_getElem? (i := 21) rfl)) (hw _ (List.mem_of_getElem? (i := 3) rfl)) (by decide) (by decide)) (g := (mkF m 264 #[.val (.int p1), .val (.int p2), .val (.int (4 : Int32)), .val (.int v14), .val (.ref b15), .val (.int v26), .val (.ref b62_0)] [(.int (1 : Int32)), (.int (4 : Int32)), (.int p2), (.ref b62_0)])) rfl (by rw [hml]; rfl) (argsL := [(.ref b62_0), (.int p2), (.int (4 : Int32)), (.int (1 : Int32))]) (rest := []) (lenOf pd_7 rfl) rfl (by show 2 * 0 + _ ≤ _; exact Nat.le_of_eq rfl) (hb hby at_264) (fun _ _ => ⟨rfl, e63, (by decide : 7 + 0 ≤ _), (by decide : 58 + 0 ≤ _)⟩)
              dsimp only [Pt.U, Pt.locs, Pt.cells, Pt.slots] at X65 l65 y65 z65 st65 hQ65
              replace y65 : k65 = 7 := y65
              replace z65 : n65 = 58 := z65
              subst y65 z65
              obtain ⟨rfl, N65q, e65⟩ := hQ65
              have N65 : Fr n0 L65 := Eq.mpr (congrArg (Fr n0) l65) (Fr.app N63 N65q)
              refine Go.step st65 ?_
              show Go p e below _ (T65.setTop (mkF m 267 _ [(.int (f5 p2 (4 : Int32) (1 : Int32) (nb (EE p2 v3) 1)))]))
              by_cases hc66 : (f5 p2 (4 : Int32) (1 : Int32) (nb (EE p2 v3) 1)) = (0 : Int32)
              · exfalso
                exact own_row_4_1 hc61 hc66
              · refine Go.step (fun t k => XS.ifNo X65.here hx rfl (hb hby at_267) rfl ((if0 _ _).trans (feq hc66).1) k) ?_
                show Go p e below _ (T65.setTop (mkF m 270 _ []))
                refine gB (q := 272) X65 hx (hb hby at_270) rfl rfl rfl ?_
                refine gI (q := 273) X65 hx (hb hby at_272) rfl rfl ?_
                refine gI (q := 274) X65 hx (hb hby at_273) rfl rfl ?_
                refine gC (q := 275) (v := 2) X65 hx (hb hby at_274) rfl rfl ?_
                obtain ⟨_, _, ⟨T67, L67, k67, n67⟩, -, X67, ⟨Lc67, hQ67, l67, y67, z67⟩, st67⟩ := Jvm.LawKit.callS X65 hx (y := (⟨"com/example/hertzbid/hertzbid/ConflictPairsNeighboursPinLaw", "row", "([[IIII)Z"⟩ : MethodName)) hown (mvT hZ (hw _ (List.mem_of_getElem? (i := 19) rfl))) (mvT hZ (hw _ (List.mem_of_getElem? (i := 20) rfl))) (mvT hZ (hw _ (List.mem_of_getElem? (i := 3) rfl))) (mvT hZ (hw _ (List.mem_of_getElem? (i := 21) rfl))) (by decide) (backOf (W := 0) (rm5 l Z a0 hw [] b62_0 p2 (4 : Int32) (2 : Int32) (4 : Nat) (upA (upA (upA (upA (fun _ => Value.null) 0 (Value.ref b62_1)) 1 (Value.ref b62_2)) 2 (Value.ref b62_3)) 3 (Value.ref b62_4)) b62_3 (nb (EE p2 v3) 2) T62.heap n0 Z62 (by decide : ¬ (2 : Int32) < (0 : Int32)) (by decide : (2 : Int32).toNatClampNeg < (4 : Nat)) (rfl : (upA (upA (upA (upA (fun _ => Value.null) 0 (Value.ref b62_1)) 1 (Value.ref b62_2)) 2 (Value.ref b62_3)) 3 (Value.ref b62_4)) (2 : Int32).toNatClampNeg = .ref b62_3) Q62_4 Q62_2 (by decide : (2 : Int32) < (4 : Int32))) hZ (hw _ (List.mem_of_getElem? (i := 21) rfl)) (hw _ (List.mem_of_getElem? (i := 3) rfl)) (by decide) (by decide)) (g := (mkF m 275 #[.val (.int p1), .val (.int p2), .val (.int (4 : Int32)), .val (.int v14), .val (.ref b15), .val (.int v26), .val (.ref b62_0)] [(.int (2 : Int32)), (.int (4 : Int32)), (.int p2), (.ref b62_0)])) rfl (by rw [hml]; rfl) (argsL := [(.ref b62_0), (.int p2), (.int (4 : Int32)), (.int (2 : Int32))]) (rest := []) (lenOf pd_7 rfl) rfl (by show 2 * 0 + _ ≤ _; exact Nat.le_of_eq rfl) (hb hby at_275) (fun _ _ => ⟨rfl, e65, (by decide : 7 + 0 ≤ _), (by decide : 58 + 0 ≤ _)⟩)
                dsimp only [Pt.U, Pt.locs, Pt.cells, Pt.slots] at X67 l67 y67 z67 st67 hQ67
                replace y67 : k67 = 7 := y67
                replace z67 : n67 = 58 := z67
                subst y67 z67
                obtain ⟨rfl, N67q, e67⟩ := hQ67
                have N67 : Fr n0 L67 := Eq.mpr (congrArg (Fr n0) l67) (Fr.app N65 N67q)
                refine Go.step st67 ?_
                show Go p e below _ (T67.setTop (mkF m 278 _ [(.int (f5 p2 (4 : Int32) (2 : Int32) (nb (EE p2 v3) 2)))]))
                by_cases hc68 : (f5 p2 (4 : Int32) (2 : Int32) (nb (EE p2 v3) 2)) = (0 : Int32)
                · exfalso
                  exact own_row_4_2 hc61 hc68
                · refine Go.step (fun t k => XS.ifNo X67.here hx rfl (hb hby at_278) rfl ((if0 _ _).trans (feq hc68).1) k) ?_
                  show Go p e below _ (T67.setTop (mkF m 281 _ []))
                  refine gB (q := 283) X67 hx (hb hby at_281) rfl rfl rfl ?_
                  refine gI (q := 284) X67 hx (hb hby at_283) rfl rfl ?_
                  refine gI (q := 285) X67 hx (hb hby at_284) rfl rfl ?_
                  refine gC (q := 286) (v := 3) X67 hx (hb hby at_285) rfl rfl ?_
                  obtain ⟨_, _, ⟨T69, L69, k69, n69⟩, -, X69, ⟨Lc69, hQ69, l69, y69, z69⟩, st69⟩ := Jvm.LawKit.callS X67 hx (y := (⟨"com/example/hertzbid/hertzbid/ConflictPairsNeighboursPinLaw", "row", "([[IIII)Z"⟩ : MethodName)) hown (mvT hZ (hw _ (List.mem_of_getElem? (i := 19) rfl))) (mvT hZ (hw _ (List.mem_of_getElem? (i := 20) rfl))) (mvT hZ (hw _ (List.mem_of_getElem? (i := 3) rfl))) (mvT hZ (hw _ (List.mem_of_getElem? (i := 21) rfl))) (by decide) (backOf (W := 0) (rm5 l Z a0 hw [] b62_0 p2 (4 : Int32) (3 : Int32) (4 : Nat) (upA (upA (upA (upA (fun _ => Value.null) 0 (Value.ref b62_1)) 1 (Value.ref b62_2)) 2 (Value.ref b62_3)) 3 (Value.ref b62_4)) b62_4 (nb (EE p2 v3) 3) T62.heap n0 Z62 (by decide : ¬ (3 : Int32) < (0 : Int32)) (by decide : (3 : Int32).toNatClampNeg < (4 : Nat)) (rfl : (upA (upA (upA (upA (fun _ => Value.null) 0 (Value.ref b62_1)) 1 (Value.ref b62_2)) 2 (Value.ref b62_3)) 3 (Value.ref b62_4)) (3 : Int32).toNatClampNeg = .ref b62_4) Q62_4 Q62_3 (by decide : (3 : Int32) < (4 : Int32))) hZ (hw _ (List.mem_of_getElem? (i := 21) rfl)) (hw _ (List.mem_of_getElem? (i := 3) rfl)) (by decide) (by decide)) (g := (mkF m 286 #[.val (.int p1), .val (.int p2), .val (.int (4 : Int32)), .val (.int v14), .val (.ref b15), .val (.int v26), .val (.ref b62_0)] [(.int (3 : Int32)), (.int (4 : Int32)), (.int p2), (.ref b62_0)])) rfl (by rw [hml]; rfl) (argsL := [(.ref b62_0), (.int p2), (.int (4 : Int32)), (.int (3 : Int32))]) (rest := []) (lenOf pd_7 rfl) rfl (by show 2 * 0 + _ ≤ _; exact Nat.le_of_eq rfl) (hb hby at_286) (fun _ _ => ⟨rfl, e67, (by decide : 7 + 0 ≤ _), (by decide : 58 + 0 ≤ _)⟩)
                  dsimp only [Pt.U, Pt.locs, Pt.cells, Pt.slots] at X69 l69 y69 z69 st69 hQ69
                  replace y69 : k69 = 7 := y69
                  replace z69 : n69 = 58 := z69
                  subst y69 z69
                  obtain ⟨rfl, N69q, e69⟩ := hQ69
                  have N69 : Fr n0 L69 := Eq.mpr (congrArg (Fr n0) l69) (Fr.app N67 N69q)
                  refine Go.step st69 ?_
                  show Go p e below _ (T69.setTop (mkF m 289 _ [(.int (f5 p2 (4 : Int32) (3 : Int32) (nb (EE p2 v3) 3)))]))
                  by_cases hc70 : (f5 p2 (4 : Int32) (3 : Int32) (nb (EE p2 v3) 3)) = (0 : Int32)
                  · exfalso
                    exact own_row_4_3 hc61 hc70
                  · refine Go.step (fun t k => XS.ifNo X69.here hx rfl (hb hby at_289) rfl ((if0 _ _).trans (feq hc70).1) k) ?_
                    show Go p e below _ (T69.setTop (mkF m 292 _ []))
                    refine gB (q := 294) X69 hx (hb hby at_292) rfl rfl rfl ?_
                    refine gI (q := 295) X69 hx (hb hby at_294) rfl rfl ?_
                    refine gI (q := 296) X69 hx (hb hby at_295) rfl rfl ?_
                    refine gC (q := 297) (v := 4) X69 hx (hb hby at_296) rfl rfl ?_
                    obtain ⟨_, _, ⟨T71, L71, k71, n71⟩, -, X71, ⟨Lc71, hQ71, l71, y71, z71⟩, st71⟩ := Jvm.LawKit.callS X69 hx (y := (⟨"com/example/hertzbid/hertzbid/ConflictPairsNeighboursPinLaw", "row", "([[IIII)Z"⟩ : MethodName)) hown (mvT hZ (hw _ (List.mem_of_getElem? (i := 19) rfl))) (mvT hZ (hw _ (List.mem_of_getElem? (i := 20) rfl))) (mvT hZ (hw _ (List.mem_of_getElem? (i := 3) rfl))) (mvT hZ (hw _ (List.mem_of_getElem? (i := 21) rfl))) (by decide) (backOf (W := 0) (rm5_ge l Z a0 hw [] b62_0 p2 (4 : Int32) (4 : Int32) T62.heap n0 Z62 (by decide : ¬ ((4 : Int32) < (4 : Int32)))) hZ (hw _ (List.mem_of_getElem? (i := 21) rfl)) (hw _ (List.mem_of_getElem? (i := 3) rfl)) (by decide) (by decide)) (g := (mkF m 297 #[.val (.int p1), .val (.int p2), .val (.int (4 : Int32)), .val (.int v14), .val (.ref b15), .val (.int v26), .val (.ref b62_0)] [(.int (4 : Int32)), (.int (4 : Int32)), (.int p2), (.ref b62_0)])) rfl (by rw [hml]; rfl) (argsL := [(.ref b62_0), (.int p2), (.int (4 : Int32)), (.int (4 : Int32))]) (rest := []) (lenOf pd_7 rfl) rfl (by show 2 * 0 + _ ≤ _; exact Nat.le_of_eq rfl) (hb hby at_297) (fun _ _ => ⟨rfl, e69, (by decide : 7 + 0 ≤ _), (by decide : 58 + 0 ≤ _)⟩)
                    dsimp only [Pt.U, Pt.locs, Pt.cells, Pt.slots] at X71 l71 y71 z71 st71 hQ71
                    replace y71 : k71 = 7 := y71
                    replace z71 : n71 = 58 := z71
                    subst y71 z71
                    obtain ⟨rfl, N71q, e71⟩ := hQ71
                    have N71 : Fr n0 L71 := Eq.mpr (congrArg (Fr n0) l71) (Fr.app N69 N71q)
                    refine Go.step st71 ?_
                    show Go p e below _ (T71.setTop (mkF m 300 _ [(.int (1 : Int32))]))
                    refine Go.step (fun t k => XS.ifNo X71.here hx rfl (hb hby at_300) rfl ((if0 _ _).trans (feq (by decide : ¬ ((1 : Int32) = (0 : Int32)))).1) k) ?_
                    show Go p e below _ (T71.setTop (mkF m 303 _ []))
                    refine gC (q := 304) (v := 1) X71 hx (hb hby at_303) rfl rfl ?_
                    refine Go.step (fun t k => XS.goto X71.here hx rfl (pc0 := 304) (pc' := 308) rfl (hb hby at_304) (by decide) (by decide) k) ?_
                    show Go p e below _ (T71.setTop (mkF m 308 _ [(.int (1 : Int32))]))
                    subst hv14
                    subst hv3
                    exact retGN X71 hx Bd.notSynchronized Bd.returns (t := .boolean) (by simp) (z' := (1 : Int32)) rfl (hb hby at_308) ⟨by first | (simp only [f0, if_neg hc27, if_neg hc34, if_neg hc42, if_neg hc51, if_pos hc61, if_neg hc64, if_neg hc66, if_neg hc68, if_neg hc70]; done) | rfl | (simp [f0, if_neg hc27, if_neg hc34, if_neg hc42, if_neg hc51, if_pos hc61, if_neg hc64, if_neg hc66, if_neg hc68, if_neg hc70]; done), N71⟩ (by decide) (by decide)
          · skip
            by_cases hc72 : v3 = (5 : Int32)
            · rw [hc72]
              show Go p e below _ (T25.setTop (mkF m 226 _ []))
              refine gI (q := 227) X25 hx (hb hby at_226) rfl rfl ?_
              refine gB (q := 229) X25 hx (hb hby at_227) rfl rfl rfl ?_
              obtain ⟨_, _, ⟨T73, L73, k73, n73⟩, -, X73, ⟨Lc73, hQ73, l73, y73, z73⟩, st73⟩ := Jvm.LawKit.callS X25 hx (y := (⟨"com/example/hertzbid/hertzbid/ConflictPairs", "neighbours", "(I[J)[[I"⟩ : MethodName)) hown (mvT hZ (hw _ (List.mem_of_getElem? (i := 12) rfl))) (mvT hZ (hw _ (List.mem_of_getElem? (i := 13) rfl))) (mvT hZ (hw _ (List.mem_of_getElem? (i := 14) rfl))) (mvT hZ (hw _ (List.mem_of_getElem? (i := 15) rfl))) (by decide) (backOf (W := 0) (rm4_5 l Z a0 hw [] b15 (EE p2 v3) T25.heap n0 Z25 (own_10 p2 v3 : (EE p2 v3).length ≤ 10) (own_E_5 hc72 : ∀ p ∈ (EE p2 v3), p = (0, 1) ∨ p = (0, 2) ∨ p = (0, 3) ∨ p = (0, 4) ∨ p = (1, 2) ∨ p = (1, 3) ∨ p = (1, 4) ∨ p = (2, 3) ∨ p = (2, 4) ∨ p = (3, 4)) Q25_0) hZ (hw _ (List.mem_of_getElem? (i := 15) rfl)) (hw _ (List.mem_of_getElem? (i := 14) rfl)) (by decide) (by decide)) (g := (mkF m 229 #[.val (.int p1), .val (.int p2), .val (.int (5 : Int32)), .val (.int v14), .val (.ref b15), .val (.int v26), .unset] [(.ref b15), (.int (5 : Int32))])) rfl (by rw [hml]; rfl) (argsL := [(.int (5 : Int32)), (.ref b15)]) (rest := []) (lenOf pd_6 rfl) rfl (by show 2 * 0 + _ ≤ _; exact Nat.le_of_eq rfl) (hb hby at_229) (fun _ _ => ⟨rfl, rfl, (by decide : 1 + 7 ≤ _), (by decide : 10 + 60 ≤ _)⟩)
              dsimp only [Pt.U, Pt.locs, Pt.cells, Pt.slots] at X73 l73 y73 z73 st73 hQ73
              replace y73 : k73 = 8 := y73
              replace z73 : n73 = 70 := z73
              subst y73 z73
              obtain ⟨b73_0, b73_1, b73_2, b73_3, b73_4, b73_5, rfl, N73q, K73, sz73_0, sz73_1, sz73_2, sz73_3, sz73_4, sz73_5, Q73_0, Q73_1, Q73_2, Q73_3, Q73_4, Q73_5⟩ := hQ73
              have N73 : Fr n0 L73 := Eq.mpr (congrArg (Fr n0) l73) (Fr.app N25 N73q)
              have g_b73_0 : n0 ≤ b73_0 := Nat.le_trans Z25 sz73_0
              have sz_b73_0 : h0.size ≤ b73_0 := Nat.le_trans KK25.1 sz73_0
              have ne_b15_b73_0 : b15 ≠ b73_0 := Nat.ne_of_lt (Nat.lt_of_lt_of_le Q25_0.lt sz73_0)
              have g_b73_1 : n0 ≤ b73_1 := Nat.le_trans Z25 sz73_1
              have sz_b73_1 : h0.size ≤ b73_1 := Nat.le_trans KK25.1 sz73_1
              have ne_b15_b73_1 : b15 ≠ b73_1 := Nat.ne_of_lt (Nat.lt_of_lt_of_le Q25_0.lt sz73_1)
              have g_b73_2 : n0 ≤ b73_2 := Nat.le_trans Z25 sz73_2
              have sz_b73_2 : h0.size ≤ b73_2 := Nat.le_trans KK25.1 sz73_2
              have ne_b15_b73_2 : b15 ≠ b73_2 := Nat.ne_of_lt (Nat.lt_of_lt_of_le Q25_0.lt sz73_2)
              have g_b73_3 : n0 ≤ b73_3 := Nat.le_trans Z25 sz73_3
              have sz_b73_3 : h0.size ≤ b73_3 := Nat.le_trans KK25.1 sz73_3
              have ne_b15_b73_3 : b15 ≠ b73_3 := Nat.ne_of_lt (Nat.lt_of_lt_of_le Q25_0.lt sz73_3)
              have g_b73_4 : n0 ≤ b73_4 := Nat.le_trans Z25 sz73_4
              have sz_b73_4 : h0.size ≤ b73_4 := Nat.le_trans KK25.1 sz73_4
              have ne_b15_b73_4 : b15 ≠ b73_4 := Nat.ne_of_lt (Nat.lt_of_lt_of_le Q25_0.lt sz73_4)
              have g_b73_5 : n0 ≤ b73_5 := Nat.le_trans Z25 sz73_5
              have sz_b73_5 : h0.size ≤ b73_5 := Nat.le_trans KK25.1 sz73_5
              have ne_b15_b73_5 : b15 ≠ b73_5 := Nat.ne_of_lt (Nat.lt_of_lt_of_le Q25_0.lt sz73_5)
              have A_b15_73 := Q25_0.keep K73 nin0
              have Z73 := Nat.le_trans Z25 K73.1
              have KK73 : Keep h0 T73.heap [] := KK25.trans K73 all0
              refine Go.step st73 ?_
              show Go p e below _ (T73.setTop (mkF m 232 _ [(.ref b73_0)]))
              refine Go.step (fun t k => XS.astore X73.here hx rfl (hb hby at_232) rfl rfl (l' := #[.val (.int p1), .val (.int p2), .val (.int (5 : Int32)), .val (.int v14), .val (.ref b15), .val (.int v26), .val (.ref b73_0)]) rfl k) ?_
              show Go p e below _ (T73.setTop (mkF m 234 _ []))
              refine gB (q := 236) X73 hx (hb hby at_234) rfl rfl rfl ?_
              refine Go.step (fun t k => XS.ifnullNo X73.here hx rfl (hb hby at_236) rfl k) ?_
              show Go p e below _ (T73.setTop (mkF m 239 _ []))
              refine gB (q := 241) X73 hx (hb hby at_239) rfl rfl rfl ?_
              refine Go.step (lenA X73 hx hZ rfl Q73_5.ary (g := (mkF m 241 _ [(.ref b73_0)])) rfl rfl (hb hby at_241)) ?_
              show Go p e below _ (T73.setTop (mkF m 242 _ [(.int (5 : Int32))]))
              refine gI (q := 243) X73 hx (hb hby at_242) rfl rfl ?_
              refine Go.step (fun t k => XS.icmpYes X73.here hx rfl (pc0 := 243) (pc' := 248) rfl (hb hby at_243) rfl (teq (rfl : (5 : Int32) = (5 : Int32))).1 (by decide) (by decide) k) ?_
              show Go p e below _ (T73.setTop (mkF m 248 _ []))
              refine gB (q := 250) X73 hx (hb hby at_248) rfl rfl rfl ?_
              refine gI (q := 251) X73 hx (hb hby at_250) rfl rfl ?_
              refine gI (q := 252) X73 hx (hb hby at_251) rfl rfl ?_
              refine gC (q := 253) (v := 0) X73 hx (hb hby at_252) rfl rfl ?_
              obtain ⟨_, _, ⟨T74, L74, k74, n74⟩, -, X74, ⟨Lc74, hQ74, l74, y74, z74⟩, st74⟩ := Jvm.LawKit.callS X73 hx (y := (⟨"com/example/hertzbid/hertzbid/ConflictPairsNeighboursPinLaw", "row", "([[IIII)Z"⟩ : MethodName)) hown (mvT hZ (hw _ (List.mem_of_getElem? (i := 19) rfl))) (mvT hZ (hw _ (List.mem_of_getElem? (i := 20) rfl))) (mvT hZ (hw _ (List.mem_of_getElem? (i := 3) rfl))) (mvT hZ (hw _ (List.mem_of_getElem? (i := 21) rfl))) (by decide) (backOf (W := 0) (rm5 l Z a0 hw [] b73_0 p2 (5 : Int32) (0 : Int32) (5 : Nat) (upA (upA (upA (upA (upA (fun _ => Value.null) 0 (Value.ref b73_1)) 1 (Value.ref b73_2)) 2 (Value.ref b73_3)) 3 (Value.ref b73_4)) 4 (Value.ref b73_5)) b73_1 (nb (EE p2 v3) 0) T73.heap n0 Z73 (by decide : ¬ (0 : Int32) < (0 : Int32)) (by decide : (0 : Int32).toNatClampNeg < (5 : Nat)) (rfl : (upA (upA (upA (upA (upA (fun _ => Value.null) 0 (Value.ref b73_1)) 1 (Value.ref b73_2)) 2 (Value.ref b73_3)) 3 (Value.ref b73_4)) 4 (Value.ref b73_5)) (0 : Int32).toNatClampNeg = .ref b73_1) Q73_5 Q73_0 (by decide : (0 : Int32) < (5 : Int32))) hZ (hw _ (List.mem_of_getElem? (i := 21) rfl)) (hw _ (List.mem_of_getElem? (i := 3) rfl)) (by decide) (by decide)) (g := (mkF m 253 #[.val (.int p1), .val (.int p2), .val (.int (5 : Int32)), .val (.int v14), .val (.ref b15), .val (.int v26), .val (.ref b73_0)] [(.int (0 : Int32)), (.int (5 : Int32)), (.int p2), (.ref b73_0)])) rfl (by rw [hml]; rfl) (argsL := [(.ref b73_0), (.int p2), (.int (5 : Int32)), (.int (0 : Int32))]) (rest := []) (lenOf pd_7 rfl) rfl (by show 2 * 0 + _ ≤ _; exact Nat.le_of_eq rfl) (hb hby at_253) (fun _ _ => ⟨rfl, rfl, (by decide : 8 + 0 ≤ _), (by decide : 70 + 0 ≤ _)⟩)
              dsimp only [Pt.U, Pt.locs, Pt.cells, Pt.slots] at X74 l74 y74 z74 st74 hQ74
              replace y74 : k74 = 8 := y74
              replace z74 : n74 = 70 := z74
              subst y74 z74
              obtain ⟨rfl, N74q, e74⟩ := hQ74
              have N74 : Fr n0 L74 := Eq.mpr (congrArg (Fr n0) l74) (Fr.app N73 N74q)
              refine Go.step st74 ?_
              show Go p e below _ (T74.setTop (mkF m 256 _ [(.int (f5 p2 (5 : Int32) (0 : Int32) (nb (EE p2 v3) 0)))]))
              by_cases hc75 : (f5 p2 (5 : Int32) (0 : Int32) (nb (EE p2 v3) 0)) = (0 : Int32)
              · exfalso
                exact own_row_5_0 hc72 hc75
              · refine Go.step (fun t k => XS.ifNo X74.here hx rfl (hb hby at_256) rfl ((if0 _ _).trans (feq hc75).1) k) ?_
                show Go p e below _ (T74.setTop (mkF m 259 _ []))
                refine gB (q := 261) X74 hx (hb hby at_259) rfl rfl rfl ?_
                refine gI (q := 262) X74 hx (hb hby at_261) rfl rfl ?_
                refine gI (q := 263) X74 hx (hb hby at_262) rfl rfl ?_
                refine gC (q := 264) (v := 1) X74 hx (hb hby at_263) rfl rfl ?_
                obtain ⟨_, _, ⟨T76, L76, k76, n76⟩, -, X76, ⟨Lc76, hQ76, l76, y76, z76⟩, st76⟩ := Jvm.LawKit.callS X74 hx (y := (⟨"com/example/hertzbid/hertzbid/ConflictPairsNeighboursPinLaw", "row", "([[IIII)Z"⟩ : MethodName)) hown (mvT hZ (hw _ (List.mem_of_getElem? (i := 19) rfl))) (mvT hZ (hw _ (List.mem_of_getElem? (i := 20) rfl))) (mvT hZ (hw _ (List.mem_of_getElem? (i := 3) rfl))) (mvT hZ (hw _ (List.mem_of_getElem? (i := 21) rfl))) (by decide) (backOf (W := 0) (rm5 l Z a0 hw [] b73_0 p2 (5 : Int32) (1 : Int32) (5 : Nat) (upA (upA (upA (upA (upA (fun _ => Value.null) 0 (Value.ref b73_1)) 1 (Value.ref b73_2)) 2 (Value.ref b73_3)) 3 (Value.ref b73_4)) 4 (Value.ref b73_5)) b73_2 (nb (EE p2 v3) 1) T73.heap n0 Z73 (by decide : ¬ (1 : Int32) < (0 : Int32)) (by decide : (1 : Int32).toNatClampNeg < (5 : Nat)) (rfl : (upA (upA (upA (upA (upA (fun _ => Value.null) 0 (Value.ref b73_1)) 1 (Value.ref b73_2)) 2 (Value.ref b73_3)) 3 (Value.ref b73_4)) 4 (Value.ref b73_5)) (1 : Int32).toNatClampNeg = .ref b73_2) Q73_5 Q73_1 (by decide : (1 : Int32) < (5 : Int32))) hZ (hw _ (List.mem_of_getElem? (i := 21) rfl)) (hw _ (List.mem_of_getElem? (i := 3) rfl)) (by decide) (by decide)) (g := (mkF m 264 #[.val (.int p1), .val (.int p2), .val (.int (5 : Int32)), .val (.int v14), .val (.ref b15), .val (.int v26), .val (.ref b73_0)] [(.int (1 : Int32)), (.int (5 : Int32)), (.int p2), (.ref b73_0)])) rfl (by rw [hml]; rfl) (argsL := [(.ref b73_0), (.int p2), (.int (5 : Int32)), (.int (1 : Int32))]) (rest := []) (lenOf pd_7 rfl) rfl (by show 2 * 0 + _ ≤ _; exact Nat.le_of_eq rfl) (hb hby at_264) (fun _ _ => ⟨rfl, e74, (by decide : 8 + 0 ≤ _), (by decide : 70 + 0 ≤ _)⟩)
                dsimp only [Pt.U, Pt.locs, Pt.cells, Pt.slots] at X76 l76 y76 z76 st76 hQ76
                replace y76 : k76 = 8 := y76
                replace z76 : n76 = 70 := z76
                subst y76 z76
                obtain ⟨rfl, N76q, e76⟩ := hQ76
                have N76 : Fr n0 L76 := Eq.mpr (congrArg (Fr n0) l76) (Fr.app N74 N76q)
                refine Go.step st76 ?_
                show Go p e below _ (T76.setTop (mkF m 267 _ [(.int (f5 p2 (5 : Int32) (1 : Int32) (nb (EE p2 v3) 1)))]))
                by_cases hc77 : (f5 p2 (5 : Int32) (1 : Int32) (nb (EE p2 v3) 1)) = (0 : Int32)
                · exfalso
                  exact own_row_5_1 hc72 hc77
                · refine Go.step (fun t k => XS.ifNo X76.here hx rfl (hb hby at_267) rfl ((if0 _ _).trans (feq hc77).1) k) ?_
                  show Go p e below _ (T76.setTop (mkF m 270 _ []))
                  refine gB (q := 272) X76 hx (hb hby at_270) rfl rfl rfl ?_
                  refine gI (q := 273) X76 hx (hb hby at_272) rfl rfl ?_
                  refine gI (q := 274) X76 hx (hb hby at_273) rfl rfl ?_
                  refine gC (q := 275) (v := 2) X76 hx (hb hby at_274) rfl rfl ?_
                  obtain ⟨_, _, ⟨T78, L78, k78, n78⟩, -, X78, ⟨Lc78, hQ78, l78, y78, z78⟩, st78⟩ := Jvm.LawKit.callS X76 hx (y := (⟨"com/example/hertzbid/hertzbid/ConflictPairsNeighboursPinLaw", "row", "([[IIII)Z"⟩ : MethodName)) hown (mvT hZ (hw _ (List.mem_of_getElem? (i := 19) rfl))) (mvT hZ (hw _ (List.mem_of_getElem? (i := 20) rfl))) (mvT hZ (hw _ (List.mem_of_getElem? (i := 3) rfl))) (mvT hZ (hw _ (List.mem_of_getElem? (i := 21) rfl))) (by decide) (backOf (W := 0) (rm5 l Z a0 hw [] b73_0 p2 (5 : Int32) (2 : Int32) (5 : Nat) (upA (upA (upA (upA (upA (fun _ => Value.null) 0 (Value.ref b73_1)) 1 (Value.ref b73_2)) 2 (Value.ref b73_3)) 3 (Value.ref b73_4)) 4 (Value.ref b73_5)) b73_3 (nb (EE p2 v3) 2) T73.heap n0 Z73 (by decide : ¬ (2 : Int32) < (0 : Int32)) (by decide : (2 : Int32).toNatClampNeg < (5 : Nat)) (rfl : (upA (upA (upA (upA (upA (fun _ => Value.null) 0 (Value.ref b73_1)) 1 (Value.ref b73_2)) 2 (Value.ref b73_3)) 3 (Value.ref b73_4)) 4 (Value.ref b73_5)) (2 : Int32).toNatClampNeg = .ref b73_3) Q73_5 Q73_2 (by decide : (2 : Int32) < (5 : Int32))) hZ (hw _ (List.mem_of_getElem? (i := 21) rfl)) (hw _ (List.mem_of_getElem? (i := 3) rfl)) (by decide) (by decide)) (g := (mkF m 275 #[.val (.int p1), .val (.int p2), .val (.int (5 : Int32)), .val (.int v14), .val (.ref b15), .val (.int v26), .val (.ref b73_0)] [(.int (2 : Int32)), (.int (5 : Int32)), (.int p2), (.ref b73_0)])) rfl (by rw [hml]; rfl) (argsL := [(.ref b73_0), (.int p2), (.int (5 : Int32)), (.int (2 : Int32))]) (rest := []) (lenOf pd_7 rfl) rfl (by show 2 * 0 + _ ≤ _; exact Nat.le_of_eq rfl) (hb hby at_275) (fun _ _ => ⟨rfl, e76, (by decide : 8 + 0 ≤ _), (by decide : 70 + 0 ≤ _)⟩)
                  dsimp only [Pt.U, Pt.locs, Pt.cells, Pt.slots] at X78 l78 y78 z78 st78 hQ78
                  replace y78 : k78 = 8 := y78
                  replace z78 : n78 = 70 := z78
                  subst y78 z78
                  obtain ⟨rfl, N78q, e78⟩ := hQ78
                  have N78 : Fr n0 L78 := Eq.mpr (congrArg (Fr n0) l78) (Fr.app N76 N78q)
                  refine Go.step st78 ?_
                  show Go p e below _ (T78.setTop (mkF m 278 _ [(.int (f5 p2 (5 : Int32) (2 : Int32) (nb (EE p2 v3) 2)))]))
                  by_cases hc79 : (f5 p2 (5 : Int32) (2 : Int32) (nb (EE p2 v3) 2)) = (0 : Int32)
                  · exfalso
                    exact own_row_5_2 hc72 hc79
                  · refine Go.step (fun t k => XS.ifNo X78.here hx rfl (hb hby at_278) rfl ((if0 _ _).trans (feq hc79).1) k) ?_
                    show Go p e below _ (T78.setTop (mkF m 281 _ []))
                    refine gB (q := 283) X78 hx (hb hby at_281) rfl rfl rfl ?_
                    refine gI (q := 284) X78 hx (hb hby at_283) rfl rfl ?_
                    refine gI (q := 285) X78 hx (hb hby at_284) rfl rfl ?_
                    refine gC (q := 286) (v := 3) X78 hx (hb hby at_285) rfl rfl ?_
                    obtain ⟨_, _, ⟨T80, L80, k80, n80⟩, -, X80, ⟨Lc80, hQ80, l80, y80, z80⟩, st80⟩ := Jvm.LawKit.callS X78 hx (y := (⟨"com/example/hertzbid/hertzbid/ConflictPairsNeighboursPinLaw", "row", "([[IIII)Z"⟩ : MethodName)) hown (mvT hZ (hw _ (List.mem_of_getElem? (i := 19) rfl))) (mvT hZ (hw _ (List.mem_of_getElem? (i := 20) rfl))) (mvT hZ (hw _ (List.mem_of_getElem? (i := 3) rfl))) (mvT hZ (hw _ (List.mem_of_getElem? (i := 21) rfl))) (by decide) (backOf (W := 0) (rm5 l Z a0 hw [] b73_0 p2 (5 : Int32) (3 : Int32) (5 : Nat) (upA (upA (upA (upA (upA (fun _ => Value.null) 0 (Value.ref b73_1)) 1 (Value.ref b73_2)) 2 (Value.ref b73_3)) 3 (Value.ref b73_4)) 4 (Value.ref b73_5)) b73_4 (nb (EE p2 v3) 3) T73.heap n0 Z73 (by decide : ¬ (3 : Int32) < (0 : Int32)) (by decide : (3 : Int32).toNatClampNeg < (5 : Nat)) (rfl : (upA (upA (upA (upA (upA (fun _ => Value.null) 0 (Value.ref b73_1)) 1 (Value.ref b73_2)) 2 (Value.ref b73_3)) 3 (Value.ref b73_4)) 4 (Value.ref b73_5)) (3 : Int32).toNatClampNeg = .ref b73_4) Q73_5 Q73_3 (by decide : (3 : Int32) < (5 : Int32))) hZ (hw _ (List.mem_of_getElem? (i := 21) rfl)) (hw _ (List.mem_of_getElem? (i := 3) rfl)) (by decide) (by decide)) (g := (mkF m 286 #[.val (.int p1), .val (.int p2), .val (.int (5 : Int32)), .val (.int v14), .val (.ref b15), .val (.int v26), .val (.ref b73_0)] [(.int (3 : Int32)), (.int (5 : Int32)), (.int p2), (.ref b73_0)])) rfl (by rw [hml]; rfl) (argsL := [(.ref b73_0), (.int p2), (.int (5 : Int32)), (.int (3 : Int32))]) (rest := []) (lenOf pd_7 rfl) rfl (by show 2 * 0 + _ ≤ _; exact Nat.le_of_eq rfl) (hb hby at_286) (fun _ _ => ⟨rfl, e78, (by decide : 8 + 0 ≤ _), (by decide : 70 + 0 ≤ _)⟩)
                    dsimp only [Pt.U, Pt.locs, Pt.cells, Pt.slots] at X80 l80 y80 z80 st80 hQ80
                    replace y80 : k80 = 8 := y80
                    replace z80 : n80 = 70 := z80
                    subst y80 z80
                    obtain ⟨rfl, N80q, e80⟩ := hQ80
                    have N80 : Fr n0 L80 := Eq.mpr (congrArg (Fr n0) l80) (Fr.app N78 N80q)
                    refine Go.step st80 ?_
                    show Go p e below _ (T80.setTop (mkF m 289 _ [(.int (f5 p2 (5 : Int32) (3 : Int32) (nb (EE p2 v3) 3)))]))
                    by_cases hc81 : (f5 p2 (5 : Int32) (3 : Int32) (nb (EE p2 v3) 3)) = (0 : Int32)
                    · exfalso
                      exact own_row_5_3 hc72 hc81
                    · refine Go.step (fun t k => XS.ifNo X80.here hx rfl (hb hby at_289) rfl ((if0 _ _).trans (feq hc81).1) k) ?_
                      show Go p e below _ (T80.setTop (mkF m 292 _ []))
                      refine gB (q := 294) X80 hx (hb hby at_292) rfl rfl rfl ?_
                      refine gI (q := 295) X80 hx (hb hby at_294) rfl rfl ?_
                      refine gI (q := 296) X80 hx (hb hby at_295) rfl rfl ?_
                      refine gC (q := 297) (v := 4) X80 hx (hb hby at_296) rfl rfl ?_
                      obtain ⟨_, _, ⟨T82, L82, k82, n82⟩, -, X82, ⟨Lc82, hQ82, l82, y82, z82⟩, st82⟩ := Jvm.LawKit.callS X80 hx (y := (⟨"com/example/hertzbid/hertzbid/ConflictPairsNeighboursPinLaw", "row", "([[IIII)Z"⟩ : MethodName)) hown (mvT hZ (hw _ (List.mem_of_getElem? (i := 19) rfl))) (mvT hZ (hw _ (List.mem_of_getElem? (i := 20) rfl))) (mvT hZ (hw _ (List.mem_of_getElem? (i := 3) rfl))) (mvT hZ (hw _ (List.mem_of_getElem? (i := 21) rfl))) (by decide) (backOf (W := 0) (rm5 l Z a0 hw [] b73_0 p2 (5 : Int32) (4 : Int32) (5 : Nat) (upA (upA (upA (upA (upA (fun _ => Value.null) 0 (Value.ref b73_1)) 1 (Value.ref b73_2)) 2 (Value.ref b73_3)) 3 (Value.ref b73_4)) 4 (Value.ref b73_5)) b73_5 (nb (EE p2 v3) 4) T73.heap n0 Z73 (by decide : ¬ (4 : Int32) < (0 : Int32)) (by decide : (4 : Int32).toNatClampNeg < (5 : Nat)) (rfl : (upA (upA (upA (upA (upA (fun _ => Value.null) 0 (Value.ref b73_1)) 1 (Value.ref b73_2)) 2 (Value.ref b73_3)) 3 (Value.ref b73_4)) 4 (Value.ref b73_5)) (4 : Int32).toNatClampNeg = .ref b73_5) Q73_5 Q73_4 (by decide : (4 : Int32) < (5 : Int32))) hZ (hw _ (List.mem_of_getElem? (i := 21) rfl)) (hw _ (List.mem_of_getElem? (i := 3) rfl)) (by decide) (by decide)) (g := (mkF m 297 #[.val (.int p1), .val (.int p2), .val (.int (5 : Int32)), .val (.int v14), .val (.ref b15), .val (.int v26), .val (.ref b73_0)] [(.int (4 : Int32)), (.int (5 : Int32)), (.int p2), (.ref b73_0)])) rfl (by rw [hml]; rfl) (argsL := [(.ref b73_0), (.int p2), (.int (5 : Int32)), (.int (4 : Int32))]) (rest := []) (lenOf pd_7 rfl) rfl (by show 2 * 0 + _ ≤ _; exact Nat.le_of_eq rfl) (hb hby at_297) (fun _ _ => ⟨rfl, e80, (by decide : 8 + 0 ≤ _), (by decide : 70 + 0 ≤ _)⟩)
                      dsimp only [Pt.U, Pt.locs, Pt.cells, Pt.slots] at X82 l82 y82 z82 st82 hQ82
                      replace y82 : k82 = 8 := y82
                      replace z82 : n82 = 70 := z82
                      subst y82 z82
                      obtain ⟨rfl, N82q, e82⟩ := hQ82
                      have N82 : Fr n0 L82 := Eq.mpr (congrArg (Fr n0) l82) (Fr.app N80 N82q)
                      refine Go.step st82 ?_
                      show Go p e below _ (T82.setTop (mkF m 300 _ [(.int (f5 p2 (5 : Int32) (4 : Int32) (nb (EE p2 v3) 4)))]))
                      by_cases hc83 : (f5 p2 (5 : Int32) (4 : Int32) (nb (EE p2 v3) 4)) = (0 : Int32)
                      · exfalso
                        exact own_row_5_4 hc72 hc83
                      · refine Go.step (fun t k => XS.ifNo X82.here hx rfl (hb hby at_300) rfl ((if0 _ _).trans (feq hc83).1) k) ?_
                        show Go p e below _ (T82.setTop (mkF m 303 _ []))
                        refine gC (q := 304) (v := 1) X82 hx (hb hby at_303) rfl rfl ?_
                        refine Go.step (fun t k => XS.goto X82.here hx rfl (pc0 := 304) (pc' := 308) rfl (hb hby at_304) (by decide) (by decide) k) ?_
                        show Go p e below _ (T82.setTop (mkF m 308 _ [(.int (1 : Int32))]))
                        subst hv14
                        subst hv3
                        exact retGN X82 hx Bd.notSynchronized Bd.returns (t := .boolean) (by simp) (z' := (1 : Int32)) rfl (hb hby at_308) ⟨by first | (simp only [f0, if_neg hc27, if_neg hc34, if_neg hc42, if_neg hc51, if_neg hc61, if_pos hc72, if_neg hc75, if_neg hc77, if_neg hc79, if_neg hc81, if_neg hc83]; done) | rfl | (simp [f0, if_neg hc27, if_neg hc34, if_neg hc42, if_neg hc51, if_neg hc61, if_pos hc72, if_neg hc75, if_neg hc77, if_neg hc79, if_neg hc81, if_neg hc83]; done), N82⟩ (by decide) (by decide)
            · skip
              exact (own_n6 p1 v3 hv3 hc27 hc34 hc42 hc51 hc61 hc72).elim
theorem law_true (a b : Int32) : f0 a b = 1 := rfl
set_option maxRecDepth 65536 in
set_option maxHeartbeats 40000000 in
theorem comes_1 {Post : Tables → Env → Array Value → State → Outcome → State → Prop} (hpost : ∀ tb e args s v u, (limb_1_1.after args s (.returned v) u = true ∧ limb_1_2.after args s (.returned v) u = true ∧ True) → FrameEnd s (.returned v) u (Jvm.fieldLocs frame_1_writes args s ++ Jvm.arrayLocs frame_1_arrays args s ++ Jvm.staticLocs frame_1_statics s) 24 192 → Post tb e args s (.returned v) u) :
    ArmFor flags0 classFile x code maxLocals ret World_1 tables_1 room_1 Calls_1 rest_1 Pre_1 Post := by
  intro l hfl _ _ p e ha hc hk s m args below hf hA hF happ hP
  obtain ⟨hcalls, hrest, hpre⟩ := hP
  obtain ⟨-, -, -, hnamed, -, -, -, hat⟩ := (Spec.applies_iff hf).mp happ
  obtain ⟨hg, hn⟩ := and_e (Cond.before_iff.mp (show (Jvm.Cond.and given_1 narrow_1).before args s = true from hpre))
  obtain ⟨g0, hg⟩ := and_e hg
  obtain ⟨ga0, hg⟩ := and_e hg
  have ga1 := hg
  obtain ⟨w0, w1, rfl⟩ : ∃ w0 w1 : Value, args = #[w0, w1] := by
    have hs : args.size = 2 := by simpa [Cond.value, given_1] using g0
    obtain ⟨L⟩ := args
    match L, hs with
    | [w0, w1], _ => exact ⟨w0, w1, rfl⟩
  have hw := fun d (hd : d ∈ tables_1) => atoms_spec (ws := Jvm.Cond.code x code maxLocals ret :: tables_1) hat d (List.mem_cons_of_mem _ hd)
  have hfit : Fit s := fun {y c} hc i hi => by
    obtain ⟨ha, rfl⟩ := Array.getElem?_eq_some_iff.mp hc
    have q := List.all_eq_true.mp ((Array.all_eq_true_iff_forall_mem.mp hF) _ (Array.getElem_mem ha)) i (List.mem_range.mpr hi)
    simpa [Array.getElem?_eq_getElem hi] using q
  obtain ⟨i0, ei0⟩ := is_v ga0
  obtain rfl : w0 = (.int i0) := Option.some.inj ei0
  obtain ⟨i1, ei1⟩ := is_v ga1
  obtain rfl : w1 = (.int i1) := Option.some.inj ei1
  obtain ⟨n, o, h1, h2, h3, v, L, rfl, hQ, hq⟩ := rm0 l s _ hw tables_1 i0 i1  s.heap s.heap.size (Nat.le_refl _)  p e ha hc hk s m _ below hf ((Spec.applies_iff_loose hf).mp happ).1 ⟨rfl, State.Warmed39.refl s, rfl⟩ trivial
  obtain ⟨hv, N⟩ := hQ
  rw [law_true i0 i1] at hv
  subst hv
  refine ⟨n, _, h1, h2, h3, hpost _ _ _ _ _ _ ⟨Cond.after_iff.mpr rfl, Cond.after_iff.mpr (eq_i res_at (Term.int_eval (1)) rfl), trivial⟩ ⟨hq.1, hq.2.1, (hq.2.2.sift fun y hy => Or.inr (N y hy)).mono (by decide) (by decide)⟩⟩
theorem main_1_1 : Claimed_1_1 := comes_1 fun _ _ _ _ _ _ h hF => ⟨h.1, hF⟩
theorem main_1_2 : Claimed_1_2 := comes_1 fun _ _ _ _ _ _ h hF => ⟨h.2.1, hF⟩
end Jvm.Pilot.@@N@@
namespace Jvm.Pilot.@@N@@
open Jvm Jvm.ClassFile Sem Op Lib Jvm.Free Jvm.Stand Jvm.Pilot.@@N@@.Jvm.D
/-! MADE BY PROGRAM (witnessworld.py) out of the Statement's table words and the real class files: 13 classes; the members and pool entries that the words name. The judged class is class 1, her method 1. -/
namespace start1
open Jvm.ClassFile
def u (s : String) : CpInfo := .utf8 (stringToUtf16 s)
/-- a pool by its gaps: so many unusable entries, then the entry; so many at the end -/
def gap : Nat → List CpInfo → List CpInfo
  | 0, r => r
  | n + 1, r => .unusable :: gap n r
def poolList (es : List (Nat × CpInfo)) (last : Nat) : List CpInfo := es.foldr (fun e r => gap e.1 (e.2 :: r)) (gap last [])
def pool (es : List (Nat × CpInfo)) (last : Nat) : Array CpInfo := ⟨poolList es last⟩
def fileOf (pool : Array CpInfo) (this : Nat) (attrs : Array Attribute := #[]) (ms : Array MethodInfo := #[]) (fl : Nat := 33) (sup : Nat := 0) (ifs : Array Nat := #[]) (fds : Array FieldInfo := #[]) : ClassFile where
  minorVersion := 0
  majorVersion := 65
  constantPool := pool
  accessFlags := fl
  thisClass := this
  superClass := sup
  interfaces := ifs
  fields := fds
  methods := ms
  attributes := attrs
def plain (name : String) (sup : Option ClassId) : Class where
  name := name
  kind := .ordinary
  loader := none
  accessFlags := 33
  super := sup
  interfaces := #[]
  cf := none
  fields := #[]
  methods := #[]
  instanceTypes := #[]
  staticTypes := #[]
  resolved := #[]
  callSites := []
  init := .initialized
  statics := none
  mirror := none

def pool0 : Array CpInfo := pool [(5, u "<init>"), (0, u "()V"), (1, .class_ 10), (1, u "java/lang/Object")] 113

def k0m0 : Method := { name := "<init>", desc := "()V", sig := { parameters := [], returnType := none }, accessFlags := 1, code := none }
/-- java/lang/Object -/
def k0 : Class := { plain "java/lang/Object" none with
  accessFlags := 33
  interfaces := #[]
  cf := some (fileOf pool0 8 #[] #[{ accessFlags := 1, nameIndex := 5, descriptorIndex := 6, attributes := #[] }] 33 0 #[] #[])
  fields := #[]
  methods := #[k0m0]
  instanceTypes := #[]
  staticTypes := #[]
  resolved := Array.replicate 124 none
  statics := none }

def pool1 : Array CpInfo := pool [(2, .class_ 4), (1, u "java/lang/Object"), (0, u "<init>"), (0, u "()V"), (0, .integer 2147483647), (0, .methodref 9 10), (0, .class_ 11), (0, .nameAndType 12 13), (0, u "com/example/hertzbid/hertzbid/ConflictPairsNeighboursPinLaw"), (0, u "one"), (0, u "(IIII)I"), (0, .methodref 9 15), (0, .nameAndType 16 17), (0, u "put"), (0, u "([JIIIII)I"), (0, .methodref 19 20), (0, .class_ 21), (0, .nameAndType 22 23), (0, u "com/example/hertzbid/hertzbid/ConflictPairs"), (0, u "neighbours"), (0, u "(I[J)[[I"), (0, .methodref 9 25), (0, .nameAndType 26 27), (0, u "row"), (0, u "([[IIII)Z"), (0, .methodref 9 29), (0, .nameAndType 30 31), (0, u "idx"), (0, u "(II)I"), (0, .methodref 9 33), (0, .nameAndType 34 35), (0, u "in"), (0, u "(IIII)Z"), (0, .methodref 37 38), (0, .class_ 39), (0, .nameAndType 40 31), (0, u "java/lang/Math"), (0, u "min"), (0, .methodref 37 42), (0, .nameAndType 43 31), (0, u "max"), (0, .methodref 9 45), (0, .nameAndType 46 35), (0, u "adj"), (0, .methodref 9 48), (0, .nameAndType 49 50), (0, u "at"), (0, u "([III)Z"), (2, u "law"), (0, u "(II)Z")] 9

def k1m0 : Method := { name := "<init>", desc := "()V", sig := { parameters := [], returnType := none }, accessFlags := 2, code := none }
def k1c1 : Code := { maxStack := 6, maxLocals := 7, code := code, exceptionTable := #[], attributes := #[] }
def k1m1 : Method := { name := "law", desc := "(II)Z", sig := { parameters := [.int, .int], returnType := some .boolean }, accessFlags := 9, code := some k1c1 }
def k1c2 : Code := { maxStack := 3, maxLocals := 2, code := method_3_code, exceptionTable := #[], attributes := #[] }
def k1m2 : Method := { name := "idx", desc := "(II)I", sig := { parameters := [.int, .int], returnType := some .int }, accessFlags := 10, code := some k1c2 }
def k1c3 : Code := { maxStack := 3, maxLocals := 4, code := method_4_code, exceptionTable := #[], attributes := #[] }
def k1m3 : Method := { name := "in", desc := "(IIII)Z", sig := { parameters := [.int, .int, .int, .int], returnType := some .boolean }, accessFlags := 10, code := some k1c3 }
def k1c4 : Code := { maxStack := 4, maxLocals := 4, code := method_5_code, exceptionTable := #[], attributes := #[] }
def k1m4 : Method := { name := "one", desc := "(IIII)I", sig := { parameters := [.int, .int, .int, .int], returnType := some .int }, accessFlags := 10, code := some k1c4 }
def k1c5 : Code := { maxStack := 6, maxLocals := 6, code := method_6_code, exceptionTable := #[], attributes := #[] }
def k1m5 : Method := { name := "put", desc := "([JIIIII)I", sig := { parameters := [(.array .long), .int, .int, .int, .int, .int], returnType := some .int }, accessFlags := 10, code := some k1c5 }
def k1c6 : Code := { maxStack := 5, maxLocals := 4, code := method_7_code, exceptionTable := #[], attributes := #[] }
def k1m6 : Method := { name := "adj", desc := "(IIII)Z", sig := { parameters := [.int, .int, .int, .int], returnType := some .boolean }, accessFlags := 10, code := some k1c6 }
def k1c7 : Code := { maxStack := 2, maxLocals := 3, code := method_8_code, exceptionTable := #[], attributes := #[] }
def k1m7 : Method := { name := "at", desc := "([III)Z", sig := { parameters := [(.array .int), .int, .int], returnType := some .boolean }, accessFlags := 10, code := some k1c7 }
def k1c8 : Code := { maxStack := 4, maxLocals := 7, code := method_9_code, exceptionTable := #[], attributes := #[] }
def k1m8 : Method := { name := "row", desc := "([[IIII)Z", sig := { parameters := [(.array (.array .int)), .int, .int, .int], returnType := some .boolean }, accessFlags := 10, code := some k1c8 }
/-- com/example/hertzbid/hertzbid/ConflictPairsNeighboursPinLaw -/
def k1 : Class := { plain "com/example/hertzbid/hertzbid/ConflictPairsNeighboursPinLaw" (some 0) with
  accessFlags := 49
  interfaces := #[]
  cf := some (fileOf pool1 9 #[] #[{ accessFlags := 2, nameIndex := 5, descriptorIndex := 6, attributes := #[] }, { accessFlags := 9, nameIndex := 53, descriptorIndex := 54, attributes := #[] }, { accessFlags := 10, nameIndex := 30, descriptorIndex := 31, attributes := #[] }, { accessFlags := 10, nameIndex := 34, descriptorIndex := 35, attributes := #[] }, { accessFlags := 10, nameIndex := 12, descriptorIndex := 13, attributes := #[] }, { accessFlags := 10, nameIndex := 16, descriptorIndex := 17, attributes := #[] }, { accessFlags := 10, nameIndex := 46, descriptorIndex := 35, attributes := #[] }, { accessFlags := 10, nameIndex := 49, descriptorIndex := 50, attributes := #[] }, { accessFlags := 10, nameIndex := 26, descriptorIndex := 27, attributes := #[] }] 49 2 #[] #[])
  fields := #[]
  methods := #[k1m0, k1m1, k1m2, k1m3, k1m4, k1m5, k1m6, k1m7, k1m8]
  instanceTypes := #[]
  staticTypes := #[]
  resolved := Array.replicate 64 none
  statics := none }

def pool2 : Array CpInfo := pool [(2, .class_ 4), (1, u "java/lang/Object"), (0, u "<init>"), (0, u "()V"), (33, u "first"), (2, .class_ 45), (1, u "com/example/hertzbid/hertzbid/ConflictPairs"), (4, u "second"), (19, .methodref 43 71), (0, .nameAndType 40 72), (0, u "(J)I"), (8, .methodref 43 82), (0, .nameAndType 50 72), (7, .class_ 91), (0, u "[I"), (33, u "neighbours"), (0, u "(I[J)[[I")] 20

def k2m0 : Method := { name := "<init>", desc := "()V", sig := { parameters := [], returnType := none }, accessFlags := 2, code := none }
def k2c1 : Code := { maxStack := 3, maxLocals := 2, code := prog_18_method_3_code, exceptionTable := #[], attributes := #[] }
def k2m1 : Method := { name := "first", desc := "(J)I", sig := { parameters := [.long], returnType := some .int }, accessFlags := 8, code := some k2c1 }
def k2c2 : Code := { maxStack := 2, maxLocals := 2, code := prog_18_method_4_code, exceptionTable := #[], attributes := #[] }
def k2m2 : Method := { name := "second", desc := "(J)I", sig := { parameters := [.long], returnType := some .int }, accessFlags := 8, code := some k2c2 }
def k2c3 : Code := { maxStack := 6, maxLocals := 11, code := prog_18_method_7_code, exceptionTable := #[], attributes := #[] }
def k2m3 : Method := { name := "neighbours", desc := "(I[J)[[I", sig := { parameters := [.int, (.array .long)], returnType := some (.array (.array .int)) }, accessFlags := 8, code := some k2c3 }
/-- com/example/hertzbid/hertzbid/ConflictPairs -/
def k2 : Class := { plain "com/example/hertzbid/hertzbid/ConflictPairs" (some 0) with
  accessFlags := 48
  interfaces := #[]
  cf := some (fileOf pool2 43 #[] #[{ accessFlags := 2, nameIndex := 5, descriptorIndex := 6, attributes := #[] }, { accessFlags := 8, nameIndex := 40, descriptorIndex := 72, attributes := #[] }, { accessFlags := 8, nameIndex := 50, descriptorIndex := 72, attributes := #[] }, { accessFlags := 8, nameIndex := 125, descriptorIndex := 126, attributes := #[] }] 48 2 #[] #[])
  fields := #[]
  methods := #[k2m0, k2m1, k2m2, k2m3]
  instanceTypes := #[]
  staticTypes := #[]
  resolved := Array.replicate 147 none
  statics := none }

def pool3 : Array CpInfo := pool [(1, .class_ 2), (0, u "java/lang/Math"), (1, .class_ 6), (1, u "java/lang/Object"), (0, u "<init>"), (0, u "()V"), (89, .class_ 100), (1, u "java/lang/Math$RandomNumberGeneratorHolder"), (71, u "negativeZeroFloatBits"), (0, u "J"), (2, u "negativeZeroDoubleBits"), (21, u "max"), (2, u "min"), (43, u "$assertionsDisabled"), (0, u "Z"), (88, u "(II)I"), (2, u "twoToTheDoubleScaleDown"), (0, u "D"), (4, u "twoToTheDoubleScaleUp"), (9, u "E"), (3, u "PI"), (2, u "TAU"), (2, u "DEGREES_TO_RADIANS"), (0, u "RADIANS_TO_DEGREES")] 94

def k3m0 : Method := { name := "<init>", desc := "()V", sig := { parameters := [], returnType := none }, accessFlags := 2, code := none }
def k3c1 : Code := { maxStack := 2, maxLocals := 2, code := jdk_29_method_65_code, exceptionTable := #[], attributes := #[] }
def k3m1 : Method := { name := "max", desc := "(II)I", sig := { parameters := [.int, .int], returnType := some .int }, accessFlags := 9, code := some k3c1 }
def k3c2 : Code := { maxStack := 2, maxLocals := 2, code := jdk_29_method_69_code, exceptionTable := #[], attributes := #[] }
def k3m2 : Method := { name := "min", desc := "(II)I", sig := { parameters := [.int, .int], returnType := some .int }, accessFlags := 9, code := some k3c2 }
/-- java/lang/Math -/
def k3 : Class := { plain "java/lang/Math" (some 0) with
  accessFlags := 49
  interfaces := #[]
  cf := some (fileOf pool3 1 #[.nestMembers #[98]] #[{ accessFlags := 2, nameIndex := 7, descriptorIndex := 8, attributes := #[] }, { accessFlags := 9, nameIndex := 198, descriptorIndex := 335, attributes := #[] }, { accessFlags := 9, nameIndex := 201, descriptorIndex := 335, attributes := #[] }] 49 4 #[] #[{ accessFlags := 25, nameIndex := 354, descriptorIndex := 339, attributes := #[] }, { accessFlags := 25, nameIndex := 358, descriptorIndex := 339, attributes := #[] }, { accessFlags := 25, nameIndex := 361, descriptorIndex := 339, attributes := #[] }, { accessFlags := 26, nameIndex := 364, descriptorIndex := 339, attributes := #[] }, { accessFlags := 26, nameIndex := 365, descriptorIndex := 339, attributes := #[] }, { accessFlags := 26, nameIndex := 172, descriptorIndex := 173, attributes := #[] }, { accessFlags := 26, nameIndex := 176, descriptorIndex := 173, attributes := #[] }, { accessFlags := 8, nameIndex := 344, descriptorIndex := 339, attributes := #[] }, { accessFlags := 8, nameIndex := 338, descriptorIndex := 339, attributes := #[] }, { accessFlags := 4120, nameIndex := 245, descriptorIndex := 246, attributes := #[] }])
  fields := #[{ name := "E", type := .double, accessFlags := 25, slot := 0, constantValue := 0 }, { name := "PI", type := .double, accessFlags := 25, slot := 1, constantValue := 0 }, { name := "TAU", type := .double, accessFlags := 25, slot := 2, constantValue := 0 }, { name := "DEGREES_TO_RADIANS", type := .double, accessFlags := 26, slot := 3, constantValue := 0 }, { name := "RADIANS_TO_DEGREES", type := .double, accessFlags := 26, slot := 4, constantValue := 0 }, { name := "negativeZeroFloatBits", type := .long, accessFlags := 26, slot := 5, constantValue := 0 }, { name := "negativeZeroDoubleBits", type := .long, accessFlags := 26, slot := 6, constantValue := 0 }, { name := "twoToTheDoubleScaleUp", type := .double, accessFlags := 8, slot := 7, constantValue := 0 }, { name := "twoToTheDoubleScaleDown", type := .double, accessFlags := 8, slot := 8, constantValue := 0 }, { name := "$assertionsDisabled", type := .boolean, accessFlags := 4120, slot := 9, constantValue := 0 }]
  methods := #[k3m0, k3m1, k3m2]
  instanceTypes := #[]
  staticTypes := #[.double, .double, .double, .double, .double, .long, .long, .double, .double, .boolean]
  resolved := Array.replicate 460 none
  statics := none }

def pool4 : Array CpInfo := pool [(1, u "java/lang/Cloneable"), (0, .class_ 1), (0, u "java/lang/Object"), (0, .class_ 3)] 3

/-- java/lang/Cloneable -/
def k4 : Class := { plain "java/lang/Cloneable" (some 0) with
  accessFlags := 1537
  interfaces := #[]
  cf := some (fileOf pool4 2 #[] #[] 1537 4 #[] #[])
  fields := #[]
  methods := #[]
  instanceTypes := #[]
  staticTypes := #[]
  resolved := Array.replicate 8 none
  statics := none }

def pool5 : Array CpInfo := pool [(1, u "java/io/Serializable"), (0, .class_ 1), (0, u "java/lang/Object"), (0, .class_ 3)] 3

/-- java/io/Serializable -/
def k5 : Class := { plain "java/io/Serializable" (some 0) with
  accessFlags := 1537
  interfaces := #[]
  cf := some (fileOf pool5 2 #[] #[] 1537 4 #[] #[])
  fields := #[]
  methods := #[]
  instanceTypes := #[]
  staticTypes := #[]
  resolved := Array.replicate 8 none
  statics := none }

/-- the primitive byte -/
def k6 : Class := { plain "byte" none with kind := .primitive 'B', accessFlags := 0x411 }
/-- [B -/
def k7 : Class := { plain "[B" (some 0) with kind := .array 6 .byte, interfaces := #[4, 5], accessFlags := 1041 }

/-- the primitive int -/
def k8 : Class := { plain "int" none with kind := .primitive 'I', accessFlags := 0x411 }
/-- [I -/
def k9 : Class := { plain "[I" (some 0) with kind := .array 8 .int, interfaces := #[4, 5], accessFlags := 1041 }

/-- the primitive long -/
def k10 : Class := { plain "long" none with kind := .primitive 'J', accessFlags := 0x411 }
/-- [J -/
def k11 : Class := { plain "[J" (some 0) with kind := .array 10 .long, interfaces := #[4, 5], accessFlags := 1041 }

/-- [L[I; -/
def k12 : Class := { plain "[[I" (some 0) with kind := .array 9 (.array .int), interfaces := #[4, 5], accessFlags := 1041 }

def heap : Heap := #[{ cls := 12, slots := #[.null], vm := .none }]
def classes : Array Class := #[k0, k1, k2, k3, k4, k5, k6, k7, k8, k9, k10, k11, k12]
def interned : List (Array UInt16 × Addr) := []
def slotsUsed : Nat := 1
def theMethod : MethodId := ⟨1, 1⟩
def args0 : Array Value := #[.int 4, .int 37]
def aboutOver (below : List Frame) : State where
  vm := { classes := classes, interned := interned.toArray }
  heap := heap
  slotsUsed := slotsUsed
  threads := #[{ frames := .invoking theMethod args0 :: below }]
def below0 : List Frame := [.native { method := ⟨0, 0⟩, args := #[] }]
def about1 : State := aboutOver below0
def p0 : Program := .bare "" "" ""
def e0 : Env := launch0.env 0 0 0
theorem w_frames : about1.frames = Frame.invoking theMethod args0 :: below0 := rfl
set_option maxRecDepth 65536 in
theorem w_args : argsFit about1.vm theMethod args0 = true := by decide +kernel
set_option maxRecDepth 65536 in
theorem w_heap : heapFits about1 = true := by decide +kernel
set_option maxRecDepth 65536 in
theorem w_runnable : about1.curStatus? = some .runnable := by decide +kernel
set_option maxRecDepth 65536 in
theorem w_alone : about1.alone = true := by decide +kernel
set_option maxRecDepth 65536 in
theorem w_named : about1.methodNamed? x = some theMethod := by decide +kernel
set_option maxRecDepth 65536 in
theorem w_hears : about1.hears theMethod below0 = true := by decide +kernel
set_option maxRecDepth 65536 in
theorem w_ripe : about1.ripe theMethod args0 below0 = true := by decide +kernel
theorem w_running : about1.status = .running := rfl
set_option maxRecDepth 65536 in
theorem w_room : about1.hasRoom e0.platform room_1 = true :=
  launch0.hasRoom_least _ room_1 (by decide +kernel) (by decide +kernel) (by decide +kernel) (by decide +kernel) (by decide +kernel) (by decide +kernel)
theorem allAtoms_all (ts : List Jvm.Cond) (a : Array Jvm.Value) (st : Jvm.State) : (allAtoms ts).before a st = ts.all (fun c => c.before a st) := by
  induction ts with
  | nil => rfl
  | cons c t ih =>
    show (Jvm.Cond.and c (allAtoms t)).before a st = _
    rw [Jvm.Cond.before_and, ih, List.all_cons]
def words1 : List Jvm.Cond := Jvm.Cond.code x code maxLocals ret :: tables_1
/-- a 'code' word, met by the world's own term for the bytes: nothing is compared byte by byte -/
theorem code_word {y : MethodName} {bytes : ByteArray} {mx : Nat} {rt : Option FieldType} {a : Array Value} {s : State} {m : MethodId} {meth : Method} {c : Code} (h1 : s.methodNamed? y = some m) (h2 : s.vm.method? m = some meth) (h3 : meth.code = some c) (h4 : c.code = bytes)
    (h5 : (c.maxLocals == mx && c.exceptionTable.isEmpty && decide (c.maxStack ≤ mostOperands) && decide (meth.sig.returnType = rt) && !meth.locks && decide (parseMethodDescriptor y.desc = some meth.sig)) = true) : (Jvm.Cond.code y bytes mx rt).before a s = true := by
  simp only [Bool.and_eq_true, beq_iff_eq, Bool.not_eq_true', decide_eq_true_eq] at h5
  obtain ⟨⟨⟨⟨⟨g1, g2⟩, g3⟩, g4⟩, g5⟩, g6⟩ := h5
  simp [Cond.before, Cond.holds, Cond.value, h1, h2, h3, h4, g1, g2, g3, g4, g5, g6]
def isCode : Jvm.Cond → Bool
  | .code _ _ _ _ => true
  | _ => false
theorem all_split {L : List Jvm.Cond} {P : Jvm.Cond → Bool} (h1 : L.all (fun c => isCode c || P c) = true) (h2 : ∀ c ∈ L.filter isCode, P c = true) : L.all P = true := by
  refine List.all_eq_true.mpr fun c hc => ?_
  have h := List.all_eq_true.mp h1 c hc
  rcases Bool.eq_false_or_eq_true (isCode c) with hi | hi
  · exact h2 c (List.mem_filter.mpr ⟨hc, hi⟩)
  · simpa [hi] using h
set_option maxRecDepth 65536 in
theorem w_c0 : (Jvm.Cond.code x code maxLocals ret).before args0 about1 = true := code_word (m := ⟨1, 1⟩) (meth := k1m1) (c := k1c1) (by decide +kernel) rfl rfl rfl (by decide +kernel)
set_option maxRecDepth 65536 in
theorem w_c1 : (Jvm.Cond.code ({ cls := "com/example/hertzbid/hertzbid/ConflictPairsNeighboursPinLaw", name := "one", desc := "(IIII)I" } : Jvm.MethodName) method_5_code (4 : Nat) (Option.some Jvm.ClassFile.FieldType.int)).before args0 about1 = true := code_word (m := ⟨1, 4⟩) (meth := k1m4) (c := k1c4) (by decide +kernel) rfl rfl rfl (by decide +kernel)
set_option maxRecDepth 65536 in
theorem w_c2 : (Jvm.Cond.code ({ cls := "com/example/hertzbid/hertzbid/ConflictPairsNeighboursPinLaw", name := "in", desc := "(IIII)Z" } : Jvm.MethodName) method_4_code (4 : Nat) (Option.some Jvm.ClassFile.FieldType.boolean)).before args0 about1 = true := code_word (m := ⟨1, 3⟩) (meth := k1m3) (c := k1c3) (by decide +kernel) rfl rfl rfl (by decide +kernel)
set_option maxRecDepth 65536 in
theorem w_c3 : (Jvm.Cond.code ({ cls := "com/example/hertzbid/hertzbid/ConflictPairsNeighboursPinLaw", name := "put", desc := "([JIIIII)I" } : Jvm.MethodName) method_6_code (6 : Nat) (Option.some Jvm.ClassFile.FieldType.int)).before args0 about1 = true := code_word (m := ⟨1, 5⟩) (meth := k1m5) (c := k1c5) (by decide +kernel) rfl rfl rfl (by decide +kernel)
set_option maxRecDepth 65536 in
theorem w_c4 : (Jvm.Cond.code ({ cls := "com/example/hertzbid/hertzbid/ConflictPairs", name := "neighbours", desc := "(I[J)[[I" } : Jvm.MethodName) prog_18_method_7_code (11 : Nat) (Option.some (Jvm.ClassFile.FieldType.array (Jvm.ClassFile.FieldType.array Jvm.ClassFile.FieldType.int)))).before args0 about1 = true := code_word (m := ⟨2, 3⟩) (meth := k2m3) (c := k2c3) (by decide +kernel) rfl rfl rfl (by decide +kernel)
set_option maxRecDepth 65536 in
theorem w_c5 : (Jvm.Cond.code ({ cls := "com/example/hertzbid/hertzbid/ConflictPairsNeighboursPinLaw", name := "row", desc := "([[IIII)Z" } : Jvm.MethodName) method_9_code (7 : Nat) (Option.some Jvm.ClassFile.FieldType.boolean)).before args0 about1 = true := code_word (m := ⟨1, 8⟩) (meth := k1m8) (c := k1c8) (by decide +kernel) rfl rfl rfl (by decide +kernel)
set_option maxRecDepth 65536 in
theorem w_c6 : (Jvm.Cond.code ({ cls := "com/example/hertzbid/hertzbid/ConflictPairsNeighboursPinLaw", name := "idx", desc := "(II)I" } : Jvm.MethodName) method_3_code (2 : Nat) (Option.some Jvm.ClassFile.FieldType.int)).before args0 about1 = true := code_word (m := ⟨1, 2⟩) (meth := k1m2) (c := k1c2) (by decide +kernel) rfl rfl rfl (by decide +kernel)
set_option maxRecDepth 65536 in
theorem w_c7 : (Jvm.Cond.code ({ cls := "com/example/hertzbid/hertzbid/ConflictPairs", name := "first", desc := "(J)I" } : Jvm.MethodName) prog_18_method_3_code (2 : Nat) (Option.some Jvm.ClassFile.FieldType.int)).before args0 about1 = true := code_word (m := ⟨2, 1⟩) (meth := k2m1) (c := k2c1) (by decide +kernel) rfl rfl rfl (by decide +kernel)
set_option maxRecDepth 65536 in
theorem w_c8 : (Jvm.Cond.code ({ cls := "com/example/hertzbid/hertzbid/ConflictPairs", name := "second", desc := "(J)I" } : Jvm.MethodName) prog_18_method_4_code (2 : Nat) (Option.some Jvm.ClassFile.FieldType.int)).before args0 about1 = true := code_word (m := ⟨2, 2⟩) (meth := k2m2) (c := k2c2) (by decide +kernel) rfl rfl rfl (by decide +kernel)
set_option maxRecDepth 65536 in
theorem w_c9 : (Jvm.Cond.code ({ cls := "com/example/hertzbid/hertzbid/ConflictPairsNeighboursPinLaw", name := "adj", desc := "(IIII)Z" } : Jvm.MethodName) method_7_code (4 : Nat) (Option.some Jvm.ClassFile.FieldType.boolean)).before args0 about1 = true := code_word (m := ⟨1, 6⟩) (meth := k1m6) (c := k1c6) (by decide +kernel) rfl rfl rfl (by decide +kernel)
set_option maxRecDepth 65536 in
theorem w_c10 : (Jvm.Cond.code ({ cls := "java/lang/Math", name := "min", desc := "(II)I" } : Jvm.MethodName) jdk_29_method_69_code (2 : Nat) (Option.some Jvm.ClassFile.FieldType.int)).before args0 about1 = true := code_word (m := ⟨3, 2⟩) (meth := k3m2) (c := k3c2) (by decide +kernel) rfl rfl rfl (by decide +kernel)
set_option maxRecDepth 65536 in
theorem w_c11 : (Jvm.Cond.code ({ cls := "java/lang/Math", name := "max", desc := "(II)I" } : Jvm.MethodName) jdk_29_method_65_code (2 : Nat) (Option.some Jvm.ClassFile.FieldType.int)).before args0 about1 = true := code_word (m := ⟨3, 1⟩) (meth := k3m1) (c := k3c1) (by decide +kernel) rfl rfl rfl (by decide +kernel)
set_option maxRecDepth 65536 in
theorem w_c12 : (Jvm.Cond.code ({ cls := "com/example/hertzbid/hertzbid/ConflictPairsNeighboursPinLaw", name := "at", desc := "([III)Z" } : Jvm.MethodName) method_8_code (3 : Nat) (Option.some Jvm.ClassFile.FieldType.boolean)).before args0 about1 = true := code_word (m := ⟨1, 7⟩) (meth := k1m7) (c := k1c7) (by decide +kernel) rfl rfl rfl (by decide +kernel)
def codes1 : List Jvm.Cond := [Jvm.Cond.code x code maxLocals ret, Jvm.Cond.code ({ cls := "com/example/hertzbid/hertzbid/ConflictPairsNeighboursPinLaw", name := "one", desc := "(IIII)I" } : Jvm.MethodName) method_5_code (4 : Nat) (Option.some Jvm.ClassFile.FieldType.int), Jvm.Cond.code ({ cls := "com/example/hertzbid/hertzbid/ConflictPairsNeighboursPinLaw", name := "in", desc := "(IIII)Z" } : Jvm.MethodName) method_4_code (4 : Nat) (Option.some Jvm.ClassFile.FieldType.boolean), Jvm.Cond.code ({ cls := "com/example/hertzbid/hertzbid/ConflictPairsNeighboursPinLaw", name := "put", desc := "([JIIIII)I" } : Jvm.MethodName) method_6_code (6 : Nat) (Option.some Jvm.ClassFile.FieldType.int), Jvm.Cond.code ({ cls := "com/example/hertzbid/hertzbid/ConflictPairs", name := "neighbours", desc := "(I[J)[[I" } : Jvm.MethodName) prog_18_method_7_code (11 : Nat) (Option.some (Jvm.ClassFile.FieldType.array (Jvm.ClassFile.FieldType.array Jvm.ClassFile.FieldType.int))), Jvm.Cond.code ({ cls := "com/example/hertzbid/hertzbid/ConflictPairsNeighboursPinLaw", name := "row", desc := "([[IIII)Z" } : Jvm.MethodName) method_9_code (7 : Nat) (Option.some Jvm.ClassFile.FieldType.boolean), Jvm.Cond.code ({ cls := "com/example/hertzbid/hertzbid/ConflictPairsNeighboursPinLaw", name := "idx", desc := "(II)I" } : Jvm.MethodName) method_3_code (2 : Nat) (Option.some Jvm.ClassFile.FieldType.int), Jvm.Cond.code ({ cls := "com/example/hertzbid/hertzbid/ConflictPairs", name := "first", desc := "(J)I" } : Jvm.MethodName) prog_18_method_3_code (2 : Nat) (Option.some Jvm.ClassFile.FieldType.int), Jvm.Cond.code ({ cls := "com/example/hertzbid/hertzbid/ConflictPairs", name := "second", desc := "(J)I" } : Jvm.MethodName) prog_18_method_4_code (2 : Nat) (Option.some Jvm.ClassFile.FieldType.int), Jvm.Cond.code ({ cls := "com/example/hertzbid/hertzbid/ConflictPairsNeighboursPinLaw", name := "adj", desc := "(IIII)Z" } : Jvm.MethodName) method_7_code (4 : Nat) (Option.some Jvm.ClassFile.FieldType.boolean), Jvm.Cond.code ({ cls := "java/lang/Math", name := "min", desc := "(II)I" } : Jvm.MethodName) jdk_29_method_69_code (2 : Nat) (Option.some Jvm.ClassFile.FieldType.int), Jvm.Cond.code ({ cls := "java/lang/Math", name := "max", desc := "(II)I" } : Jvm.MethodName) jdk_29_method_65_code (2 : Nat) (Option.some Jvm.ClassFile.FieldType.int), Jvm.Cond.code ({ cls := "com/example/hertzbid/hertzbid/ConflictPairsNeighboursPinLaw", name := "at", desc := "([III)Z" } : Jvm.MethodName) method_8_code (3 : Nat) (Option.some Jvm.ClassFile.FieldType.boolean)]
set_option maxRecDepth 65536 in
theorem codes_eq : words1.filter isCode = codes1 := rfl
theorem w_codes : ∀ c ∈ words1.filter isCode, c.before args0 about1 = true := by
  rw [codes_eq]
  intro c hc
  simp only [codes1, List.mem_cons, List.not_mem_nil, or_false] at hc
  rcases hc with rfl | rfl | rfl | rfl | rfl | rfl | rfl | rfl | rfl | rfl | rfl | rfl | rfl
  · exact w_c0
  · exact w_c1
  · exact w_c2
  · exact w_c3
  · exact w_c4
  · exact w_c5
  · exact w_c6
  · exact w_c7
  · exact w_c8
  · exact w_c9
  · exact w_c10
  · exact w_c11
  · exact w_c12
set_option maxRecDepth 65536 in
theorem w_t1 : (words1.take 24).all (fun c => isCode c || c.before args0 about1) = true := by decide +kernel
set_option maxRecDepth 65536 in
theorem w_t2 : (words1.drop 24).all (fun c => isCode c || c.before args0 about1) = true := by decide +kernel
theorem w_tables : (allAtoms (Jvm.Cond.code x code maxLocals ret :: tables_1)).before args0 about1 = true := by
  rw [allAtoms_all]
  show words1.all (fun c => c.before args0 about1) = true
  refine all_split ?_ w_codes
  rw [← List.take_append_drop 24 words1, List.all_append, w_t1, w_t2]
  rfl
set_option maxRecDepth 65536 in
theorem w_case : (Jvm.Cond.and given_1 narrow_1).before args0 about1 = true := by decide +kernel
theorem w_applies : (headSpec (Jvm.Cond.code x code maxLocals ret :: tables_1) room_1).applies x e0.platform about1 = true :=
  (Spec.applies_iff w_frames).mpr ⟨w_running, w_runnable, w_alone, w_named, w_hears, w_ripe, w_room, w_tables⟩
theorem atStart : AtStart classFile x code maxLocals ret World_1 tables_1 room_1 Calls_1 rest_1 Pre_1 launch0 p0 e0 about1 theMethod args0 below0 :=
  ⟨lists_1, trivial, launch0.admits_env _ _ _, launch0.least_env, fairChoices_fair.cas, fairChoices_fair.clock, w_frames, w_args, w_heap, w_applies, trivial, trivial, w_case⟩
end start1
theorem witness_1 : WitnessClaimed_1 := ⟨start1.p0, start1.e0, start1.about1, start1.theMethod, start1.args0, start1.below0, start1.atStart⟩
end Jvm.Pilot.@@N@@
