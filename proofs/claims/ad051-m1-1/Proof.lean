import JvmDerived
import JvmDerived.Pilot.@@N@@Statement
import JvmDerived.Pilot.@@N@@Code
set_option linter.unusedVariables false
set_option linter.unusedSimpArgs false
namespace Jvm.OwnKit
open Sem ClassFile Op Lib Jvm.Stand Jvm.Free Jvm.LawKit Jvm.RoadKit
/-- from S the run comes to a state of which Φ holds -/
def Go (p : Program) (e : Env) (below : List Frame) (Φ : State → Prop) (S : State) : Prop := ∃ u, Steps p.tables e below S u ∧ Φ u
theorem Go.step {p : Program} {e : Env} {below : List Frame} {Φ : State → Prop} {S S' : State} (h : ∀ t, Steps p.tables e below S' t → Steps p.tables e below S t) (k : Go p e below Φ S') : Go p e below Φ S := by
  obtain ⟨u, q, r⟩ := k
  exact ⟨u, h u q, r⟩
theorem Go.trans {p : Program} {e : Env} {below : List Frame} {Φ : State → Prop} {S S' : State} (h : Steps p.tables e below S S') (k : Go p e below Φ S') : Go p e below Φ S := by
  obtain ⟨u, q, r⟩ := k
  exact ⟨u, Steps.trans h q, r⟩
theorem Go.here {p : Program} {e : Env} {below : List Frame} {Φ : State → Prop} {S : State} (k : Φ S) : Go p e below Φ S := ⟨S, Steps.refl _, k⟩
/-- the end of a body -/
def FinQ (below : List Frame) (s : State) (Q : Option Value → Heap → List Loc → Prop) (k n : Nat) (u : State) : Prop :=
  ∃ o, u.status = .running ∧ Ended u below o ∧ ∃ v L, o = .returned v ∧ Q v u.heap L ∧ FrameEnd s o u L k n
theorem Go.done {p : Program} {e : Env} {below : List Frame} {s : State} {Q : Option Value → Heap → List Loc → Prop} {k n : Nat} {S : State} (h : Go p e below (FinQ below s Q k n) S) :
    ∃ s₂ o, Steps p.tables e below S s₂ ∧ s₂.status = .running ∧ Ended s₂ below o ∧ ∃ v L, o = .returned v ∧ Q v s₂.heap L ∧ FrameEnd s o s₂ L k n := by
  obtain ⟨u, q, o, r1, r2, r3⟩ := h
  exact ⟨u, o, q, r1, r2, r3⟩
theorem nameIt {α : Type} (P : α → Prop) (x : α) (h : ∀ z, z = x → P z) : P x := h x rfl
section New
variable {p : Program} {l : Launch} {e : Env} {R : Room} {s : State} {m : MethodId} {args : Array Value} {below : List Frame} {meth : Method} {c : Code} {T : State} {locs : List Loc} {cells slots : Nat}
/-- the run stands at the frame F, in a heap h -/
def AtF (p : Program) (l : Launch) (e : Env) (R : Room) (s : State) (m : MethodId) (args : Array Value) (below : List Frame) (meth : Method) (c : Code) (n0 cells slots : Nat) (h : Heap) (F : JFrame) (u : State) : Prop :=
  ∃ T' locs', u = T'.setTop F ∧ Stand p l e R s m args below meth c T' locs' cells slots ∧ Fr n0 locs' ∧ T'.heap = h
theorem retG {pc : Nat} {Ls : Array Slot} {w : Value} {t : FieldType} {i : Instr} {rest : List Value} {Q : Option Value → Heap → List Loc → Prop} {k n : Nat}
    (X : Stand p l e R s m args below meth c T locs cells slots) (hx : p.tables.exec = Jvm.exec) (hlocks : meth.locks = false) (hret : meth.sig.returnType = some t) (hn : narrow t w = w)
    (hi : (i = .ireturn ∧ (t = .int ∨ t = .boolean ∨ t = .byte ∨ t = .char ∨ t = .short) ∧ ∃ z, w = .int z) ∨ (i = .lreturn ∧ t = .long ∧ ∃ z, w = .long z) ∨ (i = .dreturn ∧ t = .double ∧ ∃ z, w = .double z) ∨ (i = .freturn ∧ t = .float ∧ ∃ z, w = .float z) ∨ (i = .areturn ∧ t.isReference = true ∧ w.isRef = true))
    (hd : decode c.code pc = .ok (i, 1)) (hQ : Q (some w) T.heap locs) (hc : cells ≤ k) (hs : slots ≤ n) : Go p e below (FinQ below s Q k n) (T.setTop (mkF m pc Ls (w :: rest))) := by
  obtain ⟨fs, hr, hrun, hended, hW, hsame⟩ := X.leave (v := some w) (fun h => by rw [hret] at h; cases h) hlocks
  exact ⟨_, retOut X hx hret hn hi hd hr, _, hrun, hended, _, _, rfl, hQ, ⟨_, rfl⟩, hW, hsame.mono hc hs⟩
theorem retGI {pc : Nat} {Ls : Array Slot} {z : Int32} {rest : List Value} {Q : Option Value → Heap → List Loc → Prop} {k n : Nat}
    (X : Stand p l e R s m args below meth c T locs cells slots) (hx : p.tables.exec = Jvm.exec) (hlocks : meth.locks = false) (hret : meth.sig.returnType = some .int)
    (hd : decode c.code pc = .ok (.ireturn, 1)) (hQ : Q (some (.int z)) T.heap locs) (hc : cells ≤ k) (hs : slots ≤ n) : Go p e below (FinQ below s Q k n) (T.setTop (mkF m pc Ls (.int z :: rest))) :=
  retG X hx hlocks hret rfl (Or.inl ⟨rfl, Or.inl rfl, _, rfl⟩) hd hQ hc hs
theorem retGJ {pc : Nat} {Ls : Array Slot} {z : Int64} {rest : List Value} {Q : Option Value → Heap → List Loc → Prop} {k n : Nat}
    (X : Stand p l e R s m args below meth c T locs cells slots) (hx : p.tables.exec = Jvm.exec) (hlocks : meth.locks = false) (hret : meth.sig.returnType = some .long)
    (hd : decode c.code pc = .ok (.lreturn, 1)) (hQ : Q (some (.long z)) T.heap locs) (hc : cells ≤ k) (hs : slots ≤ n) : Go p e below (FinQ below s Q k n) (T.setTop (mkF m pc Ls (.long z :: rest))) :=
  retG X hx hlocks hret rfl (Or.inr (Or.inl ⟨rfl, rfl, _, rfl⟩)) hd hQ hc hs
theorem retGR {pc : Nat} {Ls : Array Slot} {a : Addr} {t : FieldType} {rest : List Value} {Q : Option Value → Heap → List Loc → Prop} {k n : Nat}
    (X : Stand p l e R s m args below meth c T locs cells slots) (hx : p.tables.exec = Jvm.exec) (hlocks : meth.locks = false) (hret : meth.sig.returnType = some t) (ht : t.isReference = true) (hn : narrow t (.ref a) = .ref a)
    (hd : decode c.code pc = .ok (.areturn, 1)) (hQ : Q (some (.ref a)) T.heap locs) (hc : cells ≤ k) (hs : slots ≤ n) : Go p e below (FinQ below s Q k n) (T.setTop (mkF m pc Ls (.ref a :: rest))) :=
  retG X hx hlocks hret hn (Or.inr (Or.inr (Or.inr (Or.inr ⟨rfl, ht, rfl⟩)))) hd hQ hc hs
theorem retGN {pc : Nat} {Ls : Array Slot} {z z' : Int32} {t : FieldType} {rest : List Value} {Q : Option Value → Heap → List Loc → Prop} {k n : Nat}
    (X : Stand p l e R s m args below meth c T locs cells slots) (hx : p.tables.exec = Jvm.exec) (hlocks : meth.locks = false) (hret : meth.sig.returnType = some t) (ht : t = .boolean ∨ t = .byte ∨ t = .char ∨ t = .short) (hz : nar t z = z')
    (hd : decode c.code pc = .ok (.ireturn, 1)) (hQ : Q (some (.int z')) T.heap locs) (hc : cells ≤ k) (hs : slots ≤ n) : Go p e below (FinQ below s Q k n) (T.setTop (mkF m pc Ls (.int z :: rest))) := by
  subst hz
  obtain ⟨fs, hr, hrun, hended, hW, hsame⟩ := X.leave (v := some (.int (nar t z))) (fun h => by rw [hret] at h; cases h) hlocks
  exact ⟨_, retN X hx hret ht hd hr, _, hrun, hended, _, _, rfl, hQ, ⟨_, rfl⟩, hW, hsame.mono hc hs⟩
theorem retGV {pc : Nat} {Ls : Array Slot} {Q : Option Value → Heap → List Loc → Prop} {k n : Nat}
    (X : Stand p l e R s m args below meth c T locs cells slots) (hx : p.tables.exec = Jvm.exec) (hlocks : meth.locks = false) (hret : meth.sig.returnType = none)
    (hd : decode c.code pc = .ok (.return_, 1)) (hQ : Q none T.heap locs) (hc : cells ≤ k) (hs : slots ≤ n) : Go p e below (FinQ below s Q k n) (T.setTop (mkF m pc Ls [])) := by
  obtain ⟨fs, hr, hrun, hended, hW, hsame⟩ := X.leave (v := none) (fun _ => rfl) hlocks
  exact ⟨_, X.returnOut hx hret hd hr, _, hrun, hended, _, _, rfl, hQ, ⟨_, rfl⟩, hW, hsame.mono hc hs⟩
end New
/-- a body that writes nothing and returns r -/
def QP (r : Value) (h0 : Heap) (n0 : Nat) (v : Option Value) (h : Heap) (L : List Loc) : Prop := v = some r ∧ Fr n0 L ∧ h = h0
def QV (h0 : Heap) (n0 : Nat) (v : Option Value) (h : Heap) (L : List Loc) : Prop := v = none ∧ Fr n0 L ∧ h = h0
def QAI (h0 : Heap) (n0 : Nat) (v : Option Value) (h : Heap) (L : List Loc) : Prop := (∃ z : Int32, v = some (.int z)) ∧ Fr n0 L ∧ h = h0
def QAJ (h0 : Heap) (n0 : Nat) (v : Option Value) (h : Heap) (L : List Loc) : Prop := (∃ z : Int64, v = some (.long z)) ∧ Fr n0 L ∧ h = h0
/-- a law: it returns r and writes nothing old -/
def QL (r : Value) (n0 : Nat) (v : Option Value) (h : Heap) (L : List Loc) : Prop := v = some r ∧ Fr n0 L
theorem remI (x y : Int32) : x - (x / y) * y = x % y := by
  rw [← Int32.toInt_inj, Int32.toInt_sub, Int32.toInt_mul, Int32.toInt_div, Int32.toInt_mod]
  have h := Int.tmod_add_mul_tdiv x.toInt y.toInt
  have r : (x.toInt.tmod y.toInt).bmod (2 ^ 32) = x.toInt.tmod y.toInt := by
    have := Int32.toInt_bmod (x % y)
    rwa [Int32.toInt_mod] at this
  rw [← r]
  have e : ((x.toInt.tdiv y.toInt).bmod (2 ^ 32) * y.toInt).bmod (2 ^ 32) = (x.toInt.tdiv y.toInt * y.toInt).bmod (2 ^ 32) := by simp
  rw [e, Int.sub_bmod_bmod]
  congr 1
  have := Int.mul_comm (x.toInt.tdiv y.toInt) y.toInt
  omega
theorem selP {s : State} {args : Array Value} {C : String} {x y z : MethodName} (hs : (Jvm.Cond.selects C x y).before args s = true) (hyz : y.cls = z.cls) (hp : s.PrivateAt z) (hi : (Jvm.Cond.instanceMethod z).before args s = true) (hz : z.cls ≠ "java/lang/invoke/MethodHandle" ∧ z.cls ≠ "java/lang/invoke/VarHandle") : (Jvm.Cond.selects z.cls z z).before args s = true := by
  obtain ⟨c, r, m, q1, q2, q3, q4, k, hk, hki⟩ := Cond.selects_spec hs
  have hc := findClass_of_methodNamed q3
  rw [hyz] at hc
  exact selects_self_of_private hc hk hki hp hi hz
theorem addI {x y : Int32} (h1 : -2147483648 ≤ x.toInt + y.toInt) (h2 : x.toInt + y.toInt < 2147483648) : (x + y).toInt = x.toInt + y.toInt := by have := c_iadd x y; have := rng32 (x + y); omega
theorem subI {x y : Int32} (h1 : -2147483648 ≤ x.toInt - y.toInt) (h2 : x.toInt - y.toInt < 2147483648) : (x - y).toInt = x.toInt - y.toInt := by have := c_isub x y; have := rng32 (x - y); omega
theorem mulI {x y : Int32} (h1 : -2147483648 ≤ x.toInt * y.toInt) (h2 : x.toInt * y.toInt < 2147483648) : (x * y).toInt = x.toInt * y.toInt := by have := c_imul x y; have := rng32 (x * y); omega
theorem addL {x y : Int64} (h1 : -9223372036854775808 ≤ x.toInt + y.toInt) (h2 : x.toInt + y.toInt < 9223372036854775808) : (x + y).toInt = x.toInt + y.toInt := by have := c_ladd x y; have := rng64 (x + y); omega
theorem subL {x y : Int64} (h1 : -9223372036854775808 ≤ x.toInt - y.toInt) (h2 : x.toInt - y.toInt < 9223372036854775808) : (x - y).toInt = x.toInt - y.toInt := by have := c_lsub x y; have := rng64 (x - y); omega
theorem mulL {x y : Int64} (h1 : -9223372036854775808 ≤ x.toInt * y.toInt) (h2 : x.toInt * y.toInt < 9223372036854775808) : (x * y).toInt = x.toInt * y.toInt := by have := c_lmul x y; have := rng64 (x * y); omega
theorem modI {x y : Int32} (d : Int) (hy : y.toInt = d) (hx : 0 ≤ x.toInt) : (x % y).toInt = x.toInt % d := by rw [Int32.toInt_mod, hy]; exact (tr _ _).1 hx
theorem modL {x y : Int64} (d : Int) (hy : y.toInt = d) (hx : 0 ≤ x.toInt) : (x % y).toInt = x.toInt % d := by rw [Int64.toInt_mod, hy]; exact (tr _ _).1 hx
end Jvm.OwnKit
namespace Jvm.OwnKit
open Sem ClassFile Op Lib Jvm.Stand Jvm.Free Jvm.LawKit Jvm.RoadKit
/-- an array: its length and its elements, by a function -/
def Ary (Z : State) (h : Heap) (a : Addr) (ty : FieldType) (n : Nat) (f : Nat → Value) : Prop := ∃ c : Cell, Arr Z h a c ty ∧ c.slots.size = n ∧ n < 2147483648 ∧ ∀ i, i < n → c.slots[i]? = some (f i)
def upA {α : Type} (f : Nat → α) (j : Nat) (v : α) : Nat → α := fun i => if i = j then v else f i
theorem upA_same {α : Type} (f : Nat → α) (j : Nat) (v : α) : upA f j v j = v := if_pos rfl
theorem upA_ne {α : Type} (f : Nat → α) {j i : Nat} (v : α) (h : i ≠ j) : upA f j v i = f i := if_neg h
section Facts
variable {Z : State} {h h' : Heap} {a b : Addr} {ty : FieldType} {n sl : Nat} {f : Nat → Value} {v : Value} {ws : List Addr} {j : Int32}
theorem Ary.lt (F : Ary Z h a ty n f) : a < h.size := by obtain ⟨c, A, -⟩ := F; exact A.lt
theorem Ary.ext (F : Ary Z h a ty n f) (E : Ext h h') : Ary Z h' a ty n f := by obtain ⟨c, A, r⟩ := F; exact ⟨c, A.ext E, r⟩
theorem Ary.other (F : Ary Z h b ty n f) (W : Wr h h' a sl v) (q : b ≠ a) : Ary Z h' b ty n f := by obtain ⟨c, A, r⟩ := F; exact ⟨c, A.other W q, r⟩
theorem Ary.keep (F : Ary Z h a ty n f) (K : Keep h h' ws) (q : a ∉ ws) : Ary Z h' a ty n f := by obtain ⟨c, A, r⟩ := F; exact ⟨c, ⟨K.2.1 a c A.1 q, A.2⟩, r⟩
theorem Ary.set (F : Ary Z h a ty n f) (W : Wr h h' a sl v) (q : sl < n) : Ary Z h' a ty n (upA f sl v) := by
  obtain ⟨c, A, hs, hn, hf⟩ := F
  obtain ⟨c', e1, -, -, e4, -, e6, e7⟩ := wr_at W A.1
  refine ⟨c', by rw [(e7 rfl).1]; exact A.same W, e4.trans hs, hn, fun i hi => ?_⟩
  by_cases e : i = sl
  · subst e; rw [(e7 rfl).2.1, upA_same]
  · rw [e6 i e, hf i hi, upA_ne _ _ e]
theorem Ary.setI {g : Nat → Int32} {x : Int32} (F : Ary Z h a ty n (fun i => .int (g i))) (W : Wr h h' a sl (.int x)) (q : sl < n) : Ary Z h' a ty n (fun i => .int (upA g sl x i)) := by
  have e : (fun i => Value.int (upA g sl x i)) = upA (fun i => Value.int (g i)) sl (.int x) := by funext i; unfold upA; split <;> rfl
  rw [e]; exact F.set W q
theorem Ary.setJ {g : Nat → Int64} {x : Int64} (F : Ary Z h a ty n (fun i => .long (g i))) (W : Wr h h' a sl (.long x)) (q : sl < n) : Ary Z h' a ty n (fun i => .long (upA g sl x i)) := by
  have e : (fun i => Value.long (upA g sl x i)) = upA (fun i => Value.long (g i)) sl (.long x) := by funext i; unfold upA; split <;> rfl
  rw [e]; exact F.set W q
theorem Ary.congr {f' : Nat → Value} (F : Ary Z h a ty n f) (q : ∀ i, i < n → f i = f' i) : Ary Z h a ty n f' := by
  obtain ⟨c, A, hs, hn, hf⟩ := F
  exact ⟨c, A, hs, hn, fun i hi => by rw [hf i hi, q i hi]⟩
theorem Ary.hin (F : Ary Z h a ty n f) (h0 : ¬ j < 0) (hj : j.toNatClampNeg < n) : ∃ cl, Arr Z h a cl ty ∧ ¬ (j < 0 ∨ cl.slots.size ≤ j.toNatClampNeg) ∧ cl.slots[j.toNatClampNeg]? = some (f j.toNatClampNeg) := by
  obtain ⟨c, A, hs, hn, hf⟩ := F
  exact ⟨c, A, fun q => q.elim h0 (fun r => by omega), hf _ hj⟩
theorem Ary.mk {k : ClassId} {z : Int32} (A : Arr Z h a (newA k ty z) ty) (q : ¬ z < 0) (hn : z.toNatClampNeg = n) : Ary Z h a ty n (fun _ => defaultValue ty) := by
  obtain ⟨c, A', -, hs, -, H, -⟩ := Arv.new A q
  have r := rng32 z
  refine ⟨c, A', hs.trans hn, ?_, fun i hi => ?_⟩
  · rw [← hn]; have := nat_of q; omega
  · have := H i (by rw [hs, hn]; exact hi); simpa using this
end Facts
theorem clamp_nat {k : Nat} (h : k < 2147483648) : (Int32.ofNat k).toNatClampNeg = k := by
  have e : (Int32.ofNat k).toInt = k := Int32.toInt_ofNat_of_lt h
  show (Int32.ofNat k).toInt.toNat = k
  rw [e]; rfl
theorem nat32 {k : Nat} (h : k < 2147483648) : k.toInt32.toInt = k := Int32.toInt_ofNat_of_lt h
section New
variable {p : Program} {l : Launch} {e : Env} {R : Room} {s : State} {m : MethodId} {args : Array Value} {below : List Frame} {meth : Method} {c : Code} {T : State} {locs : List Loc} {cells slots : Nat} {Z : State} {h : Heap} {a : Addr} {n : Nat} {rest : List Value} {g : JFrame} {j : Int32}
theorem ldI {f : Nat → Int32} (X : Stand p l e R s m args below meth c T locs cells slots) (hx : p.tables.exec = Jvm.exec) (hZ : Z.Warmed39 s.vm) (eT : T.heap = h) (F : Ary Z h a .int n (fun i => .int (f i))) (h0 : ¬ j < 0) (hj : j.toNatClampNeg < n)
    (hg : g.method = m) (hs : g.stack = .int j :: .ref a :: rest) (hd : decode c.code g.pc = .ok (.iaload, 1)) : ∀ target, Steps p.tables e below (T.setTop { g with pc := g.pc + 1, stack := .int (f j.toNatClampNeg) :: rest }) target → Steps p.tables e below (T.setTop g) target := fun t k => by
  obtain ⟨cl, A, hin, hat⟩ := F.hin h0 hj
  exact X.iaload hx (by rw [eT]; exact A.1) (State.isArrayOf_alike hZ.alike A.2.1) A.2.2 hin hat hg hs hd t k
theorem ldJ {f : Nat → Int64} (X : Stand p l e R s m args below meth c T locs cells slots) (hx : p.tables.exec = Jvm.exec) (hZ : Z.Warmed39 s.vm) (eT : T.heap = h) (F : Ary Z h a .long n (fun i => .long (f i))) (h0 : ¬ j < 0) (hj : j.toNatClampNeg < n)
    (hg : g.method = m) (hs : g.stack = .int j :: .ref a :: rest) (hd : decode c.code g.pc = .ok (.laload, 1)) : ∀ target, Steps p.tables e below (T.setTop { g with pc := g.pc + 1, stack := .long (f j.toNatClampNeg) :: rest }) target → Steps p.tables e below (T.setTop g) target := fun t k => by
  obtain ⟨cl, A, hin, hat⟩ := F.hin h0 hj
  exact X.laload hx (by rw [eT]; exact A.1) (State.isArrayOf_alike hZ.alike A.2.1) A.2.2 hin hat hg hs hd t k
theorem ldB {f : Nat → Int32} (X : Stand p l e R s m args below meth c T locs cells slots) (hx : p.tables.exec = Jvm.exec) (hZ : Z.Warmed39 s.vm) (eT : T.heap = h) (F : Ary Z h a .byte n (fun i => .int (f i))) (h0 : ¬ j < 0) (hj : j.toNatClampNeg < n)
    (hg : g.method = m) (hs : g.stack = .int j :: .ref a :: rest) (hd : decode c.code g.pc = .ok (.baload, 1)) : ∀ target, Steps p.tables e below (T.setTop { g with pc := g.pc + 1, stack := .int (f j.toNatClampNeg) :: rest }) target → Steps p.tables e below (T.setTop g) target := fun t k => by
  obtain ⟨cl, A, hin, hat⟩ := F.hin h0 hj
  exact X.baloadBytes hx (by rw [eT]; exact A.1) (State.isArrayOf_alike hZ.alike A.2.1) A.2.2 hin hat hg hs hd t k
theorem ldC {f : Nat → Int32} (X : Stand p l e R s m args below meth c T locs cells slots) (hx : p.tables.exec = Jvm.exec) (hZ : Z.Warmed39 s.vm) (eT : T.heap = h) (F : Ary Z h a .char n (fun i => .int (f i))) (h0 : ¬ j < 0) (hj : j.toNatClampNeg < n)
    (hg : g.method = m) (hs : g.stack = .int j :: .ref a :: rest) (hd : decode c.code g.pc = .ok (.caload, 1)) : ∀ target, Steps p.tables e below (T.setTop { g with pc := g.pc + 1, stack := .int (f j.toNatClampNeg) :: rest }) target → Steps p.tables e below (T.setTop g) target := fun t k => by
  obtain ⟨cl, A, hin, hat⟩ := F.hin h0 hj
  exact X.caload hx (by rw [eT]; exact A.1) (State.isArrayOf_alike hZ.alike A.2.1) A.2.2 hin hat hg hs hd t k
theorem ldR {f : Nat → Value} {ty : FieldType} (X : Stand p l e R s m args below meth c T locs cells slots) (hx : p.tables.exec = Jvm.exec) (hZ : Z.Warmed39 s.vm) (eT : T.heap = h) (F : Ary Z h a ty n f) (hty : ty.isReference = true) (h0 : ¬ j < 0) (hj : j.toNatClampNeg < n)
    (hg : g.method = m) (hs : g.stack = .int j :: .ref a :: rest) (hd : decode c.code g.pc = .ok (.aaload, 1)) : ∀ target, Steps p.tables e below (T.setTop { g with pc := g.pc + 1, stack := f j.toNatClampNeg :: rest }) target → Steps p.tables e below (T.setTop g) target := fun t k => by
  obtain ⟨cl, A, hin, hat⟩ := F.hin h0 hj
  exact X.aaload hx (by rw [eT]; exact A.1) (State.isArrayOf_alike hZ.alike A.2.1) hty A.2.2 hin hat hg hs hd t k
theorem lenA {f : Nat → Value} {ty : FieldType} (X : Stand p l e R s m args below meth c T locs cells slots) (hx : p.tables.exec = Jvm.exec) (hZ : Z.Warmed39 s.vm) (eT : T.heap = h) (F : Ary Z h a ty n f)
    (hg : g.method = m) (hs : g.stack = .ref a :: rest) (hd : decode c.code g.pc = .ok (.arraylength, 1)) : ∀ target, Steps p.tables e below (T.setTop { g with pc := g.pc + 1, stack := .int n.toInt32 :: rest }) target → Steps p.tables e below (T.setTop g) target := fun t k => by
  obtain ⟨cl, A, hs', hn, -⟩ := F
  subst hs'
  exact X.arraylength hx (by rw [eT]; exact A.1) (State.isArrayOf_alike hZ.alike A.2.1) hg hs hd t k
theorem lenAz {f : Nat → Value} {ty : FieldType} {z : Int32} (X : Stand p l e R s m args below meth c T locs cells slots) (hx : p.tables.exec = Jvm.exec) (hZ : Z.Warmed39 s.vm) (eT : T.heap = h) (F : Ary Z h a ty n f) (hz : n.toInt32 = z)
    (hg : g.method = m) (hs : g.stack = .ref a :: rest) (hd : decode c.code g.pc = .ok (.arraylength, 1)) : ∀ target, Steps p.tables e below (T.setTop { g with pc := g.pc + 1, stack := .int z :: rest }) target → Steps p.tables e below (T.setTop g) target := fun t k => by
  subst hz
  exact lenA X hx hZ eT F hg hs hd t k
end New
theorem len32 {z : Int32} (q : ¬ z < 0) : z.toNatClampNeg.toInt32 = z := by
  have r := rng32 z
  have e := nat_of q
  apply Int32.toInt_inj.mp
  rw [nat32 (by omega)]; omega
theorem succ32 (j : Nat) : Int32.ofNat j + 1 = Int32.ofNat (j + 1) := by rw [Int32.ofNat_add]; rfl
theorem of_lt {j n : Nat} (hj : j < 2147483648) (hn : n < 2147483648) : Int32.ofNat j < n.toInt32 ↔ j < n := by
  rw [Int32.lt_iff_toInt_lt, show (Int32.ofNat j).toInt = j from Int32.toInt_ofNat_of_lt hj, nat32 hn]; omega
theorem of_nn {j : Nat} (hj : j < 2147483648) : ¬ Int32.ofNat j < 0 := by
  rw [Int32.lt_iff_toInt_lt, show (Int32.ofNat j).toInt = j from Int32.toInt_ofNat_of_lt hj, show (0 : Int32).toInt = 0 by decide]; omega
theorem Ary.len {Z : State} {h : Heap} {a : Addr} {ty : FieldType} {n : Nat} {f : Nat → Value} (F : Ary Z h a ty n f) : n < 2147483648 := by obtain ⟨c, A, hs, hn, -⟩ := F; exact hn
end Jvm.OwnKit
namespace Jvm.OwnKit
open Sem ClassFile Op Lib Jvm.Stand Jvm.Free Jvm.LawKit Jvm.RoadKit
section Slim
variable {p : Program} {l : Launch} {e : Env} {R : Room} {s : State} {m : MethodId} {args : Array Value} {below : List Frame} {meth : Method} {c : Code} {T : State} {locs : List Loc} {cells slots : Nat} {pc q : Nat} {Ls : Array Slot} {st : List Value} {Φ : State → Prop}
theorem gI {k : Fin 4} {v : Int32} (X : Stand p l e R s m args below meth c T locs cells slots) (hx : p.tables.exec = Jvm.exec) (hd : decode c.code pc = .ok (.iload_n k, 1)) (hl : Ls[k.val]? = some (.val (.int v))) (hq : pc + 1 = q) (K : Go p e below Φ (T.setTop (mkF m q Ls (.int v :: st)))) : Go p e below Φ (T.setTop (mkF m pc Ls st)) := by
  subst hq; exact Go.step (fun t k => XS.iloadN X.here hx rfl hd hl k) K
theorem gJ {k : Nat} {v : Int32} (X : Stand p l e R s m args below meth c T locs cells slots) (hx : p.tables.exec = Jvm.exec) (hd : decode c.code pc = .ok (.iload k, 2)) (hl : Ls[k]? = some (.val (.int v))) (hq : pc + 2 = q) (K : Go p e below Φ (T.setTop (mkF m q Ls (.int v :: st)))) : Go p e below Φ (T.setTop (mkF m pc Ls st)) := by
  subst hq; exact Go.step (fun t k => XS.iload X.here hx rfl hd hl k) K
theorem gA {k : Fin 4} {v : Value} (X : Stand p l e R s m args below meth c T locs cells slots) (hx : p.tables.exec = Jvm.exec) (hd : decode c.code pc = .ok (.aload_n k, 1)) (hl : Ls[k.val]? = some (.val v)) (hv : v.isRef = true) (hq : pc + 1 = q) (K : Go p e below Φ (T.setTop (mkF m q Ls (v :: st)))) : Go p e below Φ (T.setTop (mkF m pc Ls st)) := by
  subst hq; exact Go.step (fun t k => XS.aloadN X.here hx rfl hd hl hv k) K
theorem gB {k : Nat} {v : Value} (X : Stand p l e R s m args below meth c T locs cells slots) (hx : p.tables.exec = Jvm.exec) (hd : decode c.code pc = .ok (.aload k, 2)) (hl : Ls[k]? = some (.val v)) (hv : v.isRef = true) (hq : pc + 2 = q) (K : Go p e below Φ (T.setTop (mkF m q Ls (v :: st)))) : Go p e below Φ (T.setTop (mkF m pc Ls st)) := by
  subst hq; exact Go.step (fun t k => XS.aload X.here hx rfl hd hl hv k) K
theorem gC {i : Int} {v : Int32} (X : Stand p l e R s m args below meth c T locs cells slots) (hx : p.tables.exec = Jvm.exec) (hd : decode c.code pc = .ok (.iconst i, 1)) (hi : Int32.ofInt i = v) (hq : pc + 1 = q) (K : Go p e below Φ (T.setTop (mkF m q Ls (.int v :: st)))) : Go p e below Φ (T.setTop (mkF m pc Ls st)) := by
  subst hq; subst hi; exact Go.step (fun t k => XS.iconst X.here hx rfl hd k) K
end Slim
end Jvm.OwnKit
namespace Jvm.Pilot.@@N@@
open Jvm Jvm.ClassFile Sem Op Lib Jvm.Free Jvm.Stand Jvm.LawKit Jvm.RoadKit Jvm.OwnKit Bundle Jvm.Pilot.@@N@@.Jvm.D
/-- what the loop of 'read' computes: the place, the number, the point's place -/
def rd (g : Nat → Int32) (to : Int32) : Nat → Int32 → Int64 → Int32 → Int32 × Int64 × Int32
  | 0, i, v, p => (i, v, p)
  | f + 1, i, v, p => if i < to then (if (g i.toNatClampNeg - (48 : Int32)) < (0 : Int32) then (if g i.toNatClampNeg = (46 : Int32) then (if p < (0 : Int32) then rd g to f (i + (1 : Int32)) v i else (i, v, p)) else (i, v, p)) else (if (9 : Int32) < (g i.toNatClampNeg - (48 : Int32)) then (if g i.toNatClampNeg = (46 : Int32) then (if p < (0 : Int32) then rd g to f (i + (1 : Int32)) v i else (i, v, p)) else (i, v, p)) else rd g to f (i + (1 : Int32)) ((v * (10 : Int64)) + (g i.toNatClampNeg - (48 : Int32)).toInt64) p)) else (i, v, p)
theorem rd_end {g : Nat → Int32} {to i p : Int32} {v : Int64} (f : Nat) (h : ¬ i < to) : rd g to f i v p = (i, v, p) := by
  cases f with
  | zero => rfl
  | succ f => simp only [rd, if_neg h]
theorem rd_dig {g : Nat → Int32} {to i p : Int32} {v : Int64} (f : Nat) (h : i < to) (h1 : ¬ (g i.toNatClampNeg - (48 : Int32)) < (0 : Int32)) (h2 : ¬ (9 : Int32) < (g i.toNatClampNeg - (48 : Int32))) : rd g to (f + 1) i v p = rd g to f (i + (1 : Int32)) ((v * (10 : Int64)) + (g i.toNatClampNeg - (48 : Int32)).toInt64) p := by
  simp only [rd, if_pos h, if_neg h1, if_neg h2]
theorem rd_dot {g : Nat → Int32} {to i p : Int32} {v : Int64} (f : Nat) (h : i < to) (h1 : g i.toNatClampNeg = (46 : Int32)) (h2 : p < (0 : Int32)) : rd g to (f + 1) i v p = rd g to f (i + (1 : Int32)) v i := by
  simp only [rd, if_pos h, h1]
  rw [if_pos (by decide), if_pos trivial, if_pos h2]
theorem rd_no {g : Nat → Int32} {to i p : Int32} {v : Int64} (f : Nat) (h1 : (g i.toNatClampNeg - (48 : Int32)) < (0 : Int32) ∨ (9 : Int32) < (g i.toNatClampNeg - (48 : Int32))) (h2 : ¬ g i.toNatClampNeg = (46 : Int32) ∨ ¬ p < (0 : Int32)) : rd g to f i v p = (i, v, p) := by
  cases f with
  | zero => rfl
  | succ f =>
    have e : (if g i.toNatClampNeg = (46 : Int32) then (if p < (0 : Int32) then rd g to f (i + (1 : Int32)) v i else (i, v, p)) else (i, v, p)) = (i, v, p) := by
      rcases h2 with h2 | h2
      · rw [if_neg h2]
      · rw [if_neg h2]; split <;> rfl
    simp only [rd, e]
    rcases h1 with h1 | h1
    · rw [if_pos h1]; split <;> rfl
    · rw [if_pos h1]; split
      · split <;> rfl
      · rfl
theorem i32v {k : Nat} (h : k < 2147483648) : (Int32.ofNat k).toInt = k := Int32.toInt_ofNat_of_lt h
theorem ltN {a b : Nat} (ha : a < 2147483648) (hb : b < 2147483648) : Int32.ofNat a < Int32.ofNat b ↔ a < b := by
  rw [Int32.lt_iff_toInt_lt, i32v ha, i32v hb]; omega
theorem i64v {k : Nat} (h : k < 9223372036854775808) : (Int64.ofNat k).toInt = k := Int64.toInt_ofNat_of_lt h
theorem valS {M K d : Nat} (hM : M < 1000000000000000000) (hd : d < 10) (e : K * 10 + d ≤ M) : (Int64.ofNat K * (10 : Int64)) + (Int32.ofNat d).toInt64 = Int64.ofNat (K * 10 + d) := by
  have h1 : (Int64.ofNat K).toInt = K := i64v (by omega)
  have h2 : (10 : Int64).toInt = 10 := by decide
  have h3 : (Int64.ofNat K * (10 : Int64)).toInt = K * 10 := by rw [mulL] <;> rw [h1, h2] <;> omega
  have h4 : (Int32.ofNat d).toInt64.toInt = d := by rw [c_i2l, i32v (by omega)]
  rw [← Int64.toInt_inj, i64v (by omega), addL] <;> rw [h3, h4] <;> omega
/-- the digit at place k of N -/
def dg (M N k : Nat) : Nat := M / 10 ^ (N - 1 - k) % 10
theorem dg_step {M N k : Nat} (hk : k < N) : M / 10 ^ (N - k) * 10 + dg M N k = M / 10 ^ (N - (k + 1)) := by
  unfold dg
  have e : N - k = (N - 1 - k) + 1 := by omega
  have e2 : N - (k + 1) = N - 1 - k := by omega
  rw [e, e2, Nat.pow_succ, ← Nat.div_div_eq_div_mul]
  have := Nat.div_add_mod (M / 10 ^ (N - 1 - k)) 10
  omega
theorem dg_lt (M N k : Nat) : dg M N k < 10 := Nat.mod_lt _ (by decide)
/-- the digits read before the r-th place -/
def kk (H Q r : Nat) : Nat := if H = 1 ∧ Q < r then r - 1 else r
def pp (H Q D r : Nat) : Int32 := if H = 1 ∧ Q < r then Int32.ofNat (D + Q) else (-1 : Int32)
theorem rd_main {T : Nat → Int32} {to : Int32} {D N H Q M len : Nat} (hH : H = 0 ∨ H = 1) (hD : D ≤ 4) (hN : N ≤ 19) (hQ : Q ≤ N) (hto : to = Int32.ofNat len) (hlen : D + N + H ≤ len) (hl : len ≤ 26)
    (hdot : H = 1 → T (D + Q) = (46 : Int32)) (hdig : ∀ r, r < N + H → ¬ (H = 1 ∧ r = Q) → T (D + r) = Int32.ofNat (48 + dg M N (kk H Q r)))
    (hstop : len = D + N + H ∨ (((T (D + N + H) - (48 : Int32)) < (0 : Int32) ∨ (9 : Int32) < (T (D + N + H) - (48 : Int32))) ∧ (¬ T (D + N + H) = (46 : Int32) ∨ H = 1))) (hM : N ≤ 18 → M < 1000000000000000000) :
    ∀ (t r f : Nat) (v : Int64), r + t = N + H → t ≤ f → ∃ ev, rd T to f (Int32.ofNat (D + r)) v (pp H Q D r) = (Int32.ofNat (D + N + H), ev, pp H Q D (N + H)) ∧ (N ≤ 18 → v = Int64.ofNat (M / 10 ^ (N - kk H Q r)) → ev = Int64.ofNat M) := by
  intro t
  induction t with
  | zero =>
    intro r f v hr hf
    have er : r = N + H := by omega
    subst er
    refine ⟨v, ?_, ?_⟩
    · have ed : D + (N + H) = D + N + H := by omega
      rw [ed]
      rcases hstop with h | ⟨h1, h2⟩
      · refine rd_end f ?_
        rw [hto, ltN (by omega) (by omega)]; omega
      · refine rd_no f ?_ ?_
        · rw [clamp_nat (by omega)]; exact h1
        · rw [clamp_nat (by omega)]
          rcases h2 with h2 | h2
          · exact Or.inl h2
          · right
            unfold pp
            rw [if_pos ⟨h2, by omega⟩]
            exact of_nn (by omega)
    · intro _ hv
      rw [hv]
      have : kk H Q (N + H) = N := by
        unfold kk
        rcases hH with h | h
        · rw [if_neg (by omega)]; omega
        · rw [if_pos ⟨h, by omega⟩]; omega
      rw [this, Nat.sub_self, Nat.pow_zero, Nat.div_one]
  | succ t ih =>
    intro r f v hr hf
    obtain ⟨f, rfl⟩ : ∃ z, f = z + 1 := ⟨f - 1, by omega⟩
    have hlt : Int32.ofNat (D + r) < to := by rw [hto, ltN (by omega) (by omega)]; omega
    have hc : (Int32.ofNat (D + r)).toNatClampNeg = D + r := clamp_nat (by omega)
    have hs : Int32.ofNat (D + r) + (1 : Int32) = Int32.ofNat (D + (r + 1)) := by rw [succ32]; rfl
    by_cases hq : H = 1 ∧ r = Q
    · have hp : pp H Q D r = (-1 : Int32) := by unfold pp; rw [if_neg (by omega)]
      have hp' : pp H Q D (r + 1) = Int32.ofNat (D + r) := by unfold pp; rw [if_pos ⟨hq.1, by omega⟩, hq.2]
      obtain ⟨ev, h1, h2⟩ := ih (r + 1) f v (by omega) (by omega)
      refine ⟨ev, ?_, fun hn hv => h2 hn ?_⟩
      · rw [rd_dot f hlt (by rw [hc, hq.2]; exact hdot hq.1) (by rw [hp]; decide), hs, ← hp']; exact h1
      · rw [hv]
        have : kk H Q (r + 1) = kk H Q r := by
          unfold kk
          rw [if_pos ⟨hq.1, by omega⟩, if_neg (by omega)]; omega
        rw [this]
    · have hT := hdig r (by omega) hq
      have hp' : pp H Q D (r + 1) = pp H Q D r := by
        unfold pp
        by_cases h1 : H = 1
        · by_cases h2 : Q < r
          · rw [if_pos (show H = 1 ∧ Q < r + 1 from ⟨h1, by omega⟩), if_pos (show H = 1 ∧ Q < r from ⟨h1, h2⟩)]
          · rw [if_neg (by omega), if_neg (by omega)]
        · rw [if_neg (by omega), if_neg (by omega)]
      have hk' : kk H Q (r + 1) = kk H Q r + 1 := by
        unfold kk
        by_cases h1 : H = 1
        · by_cases h2 : Q < r
          · rw [if_pos (show H = 1 ∧ Q < r + 1 from ⟨h1, by omega⟩), if_pos (show H = 1 ∧ Q < r from ⟨h1, h2⟩)]; omega
          · rw [if_neg (by omega), if_neg (by omega)]
        · rw [if_neg (by omega), if_neg (by omega)]
      have hkN : kk H Q r < N := by
        unfold kk
        by_cases h1 : H = 1
        · by_cases h2 : Q < r
          · rw [if_pos ⟨h1, h2⟩]; omega
          · rw [if_neg (by omega)]; omega
        · rw [if_neg (by omega)]; omega
      have hd := dg_lt M N (kk H Q r)
      have e48 : T (D + r) - (48 : Int32) = Int32.ofNat (dg M N (kk H Q r)) := by
        rw [hT, ← Int32.toInt_inj, i32v (by omega), subI] <;> rw [i32v (by omega), show (48 : Int32).toInt = 48 by decide] <;> omega
      obtain ⟨ev, h1, h2⟩ := ih (r + 1) f ((v * (10 : Int64)) + (Int32.ofNat (dg M N (kk H Q r))).toInt64) (by omega) (by omega)
      refine ⟨ev, ?_, fun hn hv => h2 hn ?_⟩
      · rw [rd_dig f hlt (by rw [hc, e48]; exact of_nn (by omega)) (by rw [hc, e48, Int32.lt_iff_toInt_lt, i32v (by omega), show (9 : Int32).toInt = 9 by decide]; omega), hc, e48, hs, ← hp']
        exact h1
      · have e := dg_step (M := M) hkN
        rw [hv, hk', ← e]
        refine valS (hM hn) hd ?_
        rw [e]; exact Nat.div_le_self _ _

def powF (j : Nat) : Int64 := Int64.ofNat (10 ^ j)
theorem powF_i {j : Nat} (h : j < 19) : (powF j).toInt = (10 ^ j : Nat) := by
  have : 10 ^ j ≤ 10 ^ 18 := Nat.pow_le_pow_right (by decide) (by omega)
  exact i64v (by omega)
theorem powF_ne {j : Nat} (h : j < 19) : ¬ (powF j = (0 : Int64)) := by
  intro q
  have := powF_i h
  rw [q, show (0 : Int64).toInt = 0 by decide] at this
  have : 0 < 10 ^ j := Nat.pow_pos (by decide)
  omega
def AtW (gs : Nat → Int32) : Prop := 0 ≤ (gs 2).toInt ∧ (gs 2).toInt ≤ 4 ∧ 0 ≤ (gs 3).toInt ∧ (gs 3).toInt ≤ 19 ∧ (gs 4 = 0 ∨ gs 4 = 1) ∧ 0 ≤ (gs 5).toInt ∧ (gs 5).toInt ≤ (gs 3).toInt ∧ (gs 6).toInt = (gs 2).toInt + (gs 3).toInt + (gs 4).toInt
theorem nn_iff (x : Int32) : ¬ x < 0 ↔ 0 ≤ x.toInt := by
  rw [Int32.lt_iff_toInt_lt, show (0 : Int32).toInt = 0 by decide]; omega
theorem clamp_of {x : Int32} (h : 0 ≤ x.toInt) : (x.toNatClampNeg : Int) = x.toInt := by
  show (x.toInt.toNat : Int) = x.toInt
  omega
/-- the number of the digit at i -/
def kI (gs : Nat → Int32) (i : Int32) : Int32 := ((i - (gs 2)) - (if (if (gs 4) = (0 : Int32) then (0 : Int32) else (1 : Int32)) = (0 : Int32) then (0 : Int32) else (if ((gs 2) + (gs 5)) < i then (1 : Int32) else (0 : Int32))))
theorem own_k {gs : Nat → Int32} {i : Int32} (hW : AtW gs) (h2 : ¬ i < gs 2) (h6 : i < gs 6) (hn : (if gs 4 = (0 : Int32) then (0 : Int32) else (1 : Int32)) = (0 : Int32) ∨ ¬ i = gs 2 + gs 5) :
    (((gs 3) - (1 : Int32)) - kI gs i).toInt = (gs 3).toInt - 1 - (i.toInt - (gs 2).toInt - (if (gs 4) = 0 then 0 else (if (gs 2).toInt + (gs 5).toInt < i.toInt then 1 else 0))) ∧ 0 ≤ (((gs 3) - (1 : Int32)) - kI gs i).toInt ∧ (((gs 3) - (1 : Int32)) - kI gs i).toInt ≤ 18 := by
  obtain ⟨a1, a2, a3, a4, a5, a6, a7, a8⟩ := hW
  rw [Int32.lt_iff_toInt_lt] at h2 h6
  have one : (1 : Int32).toInt = 1 := by decide
  have zero : (0 : Int32).toInt = 0 := by decide
  have e1 : (gs 2 + gs 5).toInt = (gs 2).toInt + (gs 5).toInt := addI (by omega) (by omega)
  have e4 : (gs 4).toInt = 0 ∨ (gs 4).toInt = 1 := by rcases a5 with h | h <;> rw [h] <;> decide
  have e2 : (i - gs 2).toInt = i.toInt - (gs 2).toInt := subI (by omega) (by omega)
  have e3 : ((gs 3) - (1 : Int32)).toInt = (gs 3).toInt - 1 := by rw [subI] <;> rw [one] <;> omega
  rcases a5 with h | h
  · have hk : kI gs i = (i - gs 2) - (0 : Int32) := by unfold kI; rw [h, if_pos rfl, if_pos rfl]
    have ek : ((i - gs 2) - (0 : Int32)).toInt = i.toInt - (gs 2).toInt := by rw [subI] <;> rw [e2, zero] <;> omega
    rw [h, zero] at a8
    rw [hk, if_pos h]
    have : (((gs 3) - (1 : Int32)) - ((i - gs 2) - (0 : Int32))).toInt = (gs 3).toInt - 1 - (i.toInt - (gs 2).toInt) := by rw [subI] <;> rw [e3, ek] <;> omega
    omega
  · have hne : ¬ gs 4 = 0 := by rw [h]; decide
    rw [if_neg hne] at hn
    have hx : ¬ i = gs 2 + gs 5 := hn.resolve_left (by decide)
    have hx' : i.toInt ≠ (gs 2).toInt + (gs 5).toInt := fun q => hx (Int32.toInt_inj.mp (by rw [e1]; exact q))
    rw [h, one] at a8
    by_cases hlt : (gs 2).toInt + (gs 5).toInt < i.toInt
    · have hk : kI gs i = (i - gs 2) - (1 : Int32) := by unfold kI; rw [if_neg hne, if_neg (by decide), if_pos (by rw [Int32.lt_iff_toInt_lt, e1]; exact hlt)]
      have ek : ((i - gs 2) - (1 : Int32)).toInt = i.toInt - (gs 2).toInt - 1 := by rw [subI] <;> rw [e2, one] <;> omega
      rw [hk, if_neg hne, if_pos hlt]
      have : (((gs 3) - (1 : Int32)) - ((i - gs 2) - (1 : Int32))).toInt = (gs 3).toInt - 1 - (i.toInt - (gs 2).toInt - 1) := by rw [subI] <;> rw [e3, ek] <;> omega
      omega
    · have hk : kI gs i = (i - gs 2) - (0 : Int32) := by unfold kI; rw [if_neg hne, if_neg (by decide), if_neg (by rw [Int32.lt_iff_toInt_lt, e1]; exact hlt)]
      have ek : ((i - gs 2) - (0 : Int32)).toInt = i.toInt - (gs 2).toInt := by rw [subI] <;> rw [e2, zero] <;> omega
      rw [hk, if_neg hne, if_neg hlt]
      have : (((gs 3) - (1 : Int32)) - ((i - gs 2) - (0 : Int32))).toInt = (gs 3).toInt - 1 - (i.toInt - (gs 2).toInt) := by rw [subI] <;> rw [e3, ek] <;> omega
      omega
theorem own_ix {gs : Nat → Int32} {i : Int32} (hW : AtW gs) (h2 : ¬ i < gs 2) (h6 : i < gs 6) (hn : (if gs 4 = (0 : Int32) then (0 : Int32) else (1 : Int32)) = (0 : Int32) ∨ ¬ i = gs 2 + gs 5) :
    ¬ (((gs 3) - (1 : Int32)) - kI gs i) < 0 ∧ (((gs 3) - (1 : Int32)) - kI gs i).toNatClampNeg < 19 := by
  obtain ⟨-, h1, h3⟩ := own_k hW h2 h6 hn
  have := clamp_of h1
  exact ⟨(nn_iff _).mpr h1, by omega⟩
def rdN (g : Nat → Int32) (a b : Int32) : Int32 := (if a < b then (if (g a.toNatClampNeg) = (45 : Int32) then (1 : Int32) else (0 : Int32)) else (0 : Int32))
def rdS (g : Nat → Int32) (a b : Int32) : Int32 := (if (rdN g a b) = (0 : Int32) then a else (a + (1 : Int32)))
def dgs (g : Nat → Int32) (a b ei ep : Int32) : Int32 := ((ei - (rdS g a b)) - (if ep < (0 : Int32) then (0 : Int32) else (1 : Int32)))
theorem own_lt {x y : Int32} {n : Nat} (h0 : 0 ≤ x.toInt) (h : x < y) (hy : y.toInt ≤ n) : x.toNatClampNeg < n := by
  rw [Int32.lt_iff_toInt_lt] at h
  have := clamp_of h0
  omega
theorem own_i1 {x y : Int32} (h : x < y) : (x + (1 : Int32)).toInt = x.toInt + 1 := by
  rw [Int32.lt_iff_toInt_lt] at h
  have := rng32 y
  have := rng32 x
  have one : (1 : Int32).toInt = 1 := by decide
  rw [addI] <;> rw [one] <;> omega
theorem rdS_nn {g : Nat → Int32} {a b : Int32} (h : 0 ≤ a.toInt) : 0 ≤ (rdS g a b).toInt := by
  unfold rdS
  split
  · exact h
  · rename_i hh
    have : a < b := by
      unfold rdN at hh
      by_cases q : a < b
      · exact q
      · rw [if_neg q] at hh; exact absurd rfl hh
    rw [own_i1 this]; omega

theorem d1_0 : decode method_3_code 0 = .ok (.aload_n 1, 1) := by decide +kernel
theorem d1_1 : decode method_3_code 1 = .ok (.iconst 0, 1) := by decide +kernel
theorem d1_2 : decode method_3_code 2 = .ok (.iaload, 1) := by decide +kernel
theorem d1_3 : decode method_3_code 3 = .ok (.istore 5, 2) := by decide +kernel
theorem d1_5 : decode method_3_code 5 = .ok (.aload_n 1, 1) := by decide +kernel
theorem d1_6 : decode method_3_code 6 = .ok (.iconst 2, 1) := by decide +kernel
theorem d1_7 : decode method_3_code 7 = .ok (.iaload, 1) := by decide +kernel
theorem d1_8 : decode method_3_code 8 = .ok (.istore 6, 2) := by decide +kernel
theorem d1_10 : decode method_3_code 10 = .ok (.aload_n 1, 1) := by decide +kernel
theorem d1_11 : decode method_3_code 11 = .ok (.iconst 3, 1) := by decide +kernel
theorem d1_12 : decode method_3_code 12 = .ok (.iaload, 1) := by decide +kernel
theorem d1_13 : decode method_3_code 13 = .ok (.istore 7, 2) := by decide +kernel
theorem d1_15 : decode method_3_code 15 = .ok (.aload_n 1, 1) := by decide +kernel
theorem d1_16 : decode method_3_code 16 = .ok (.iconst 4, 1) := by decide +kernel
theorem d1_17 : decode method_3_code 17 = .ok (.iaload, 1) := by decide +kernel
theorem d1_18 : decode method_3_code 18 = .ok (.ifCond .eq 7, 3) := by decide +kernel
theorem d1_25 : decode method_3_code 25 = .ok (.iconst 0, 1) := by decide +kernel
theorem d1_21 : decode method_3_code 21 = .ok (.iconst 1, 1) := by decide +kernel
theorem d1_22 : decode method_3_code 22 = .ok (.goto 4, 3) := by decide +kernel
theorem d1_26 : decode method_3_code 26 = .ok (.istore 8, 2) := by decide +kernel
theorem d1_28 : decode method_3_code 28 = .ok (.aload_n 1, 1) := by decide +kernel
theorem d1_29 : decode method_3_code 29 = .ok (.iconst 5, 1) := by decide +kernel
theorem d1_30 : decode method_3_code 30 = .ok (.iaload, 1) := by decide +kernel
theorem d1_31 : decode method_3_code 31 = .ok (.istore 9, 2) := by decide +kernel
theorem d1_33 : decode method_3_code 33 = .ok (.aload_n 1, 1) := by decide +kernel
theorem d1_34 : decode method_3_code 34 = .ok (.bipush 6, 2) := by decide +kernel
theorem d1_36 : decode method_3_code 36 = .ok (.iaload, 1) := by decide +kernel
theorem d1_37 : decode method_3_code 37 = .ok (.istore 10, 2) := by decide +kernel
theorem d1_39 : decode method_3_code 39 = .ok (.iload_n 0, 1) := by decide +kernel
theorem d1_40 : decode method_3_code 40 = .ok (.iload 5, 2) := by decide +kernel
theorem d1_42 : decode method_3_code 42 = .ok (.if_icmp .ge 9, 3) := by decide +kernel
theorem d1_45 : decode method_3_code 45 = .ok (.aload_n 1, 1) := by decide +kernel
theorem d1_46 : decode method_3_code 46 = .ok (.bipush 8, 2) := by decide +kernel
theorem d1_48 : decode method_3_code 48 = .ok (.iaload, 1) := by decide +kernel
theorem d1_49 : decode method_3_code 49 = .ok (.i2b, 1) := by decide +kernel
theorem d1_50 : decode method_3_code 50 = .ok (.ireturn, 1) := by decide +kernel
theorem d1_51 : decode method_3_code 51 = .ok (.iload_n 0, 1) := by decide +kernel
theorem d1_52 : decode method_3_code 52 = .ok (.iload 6, 2) := by decide +kernel
theorem d1_54 : decode method_3_code 54 = .ok (.if_icmp .ge 6, 3) := by decide +kernel
theorem d1_57 : decode method_3_code 57 = .ok (.bipush 45, 2) := by decide +kernel
theorem d1_59 : decode method_3_code 59 = .ok (.ireturn, 1) := by decide +kernel
theorem d1_60 : decode method_3_code 60 = .ok (.iload_n 0, 1) := by decide +kernel
theorem d1_61 : decode method_3_code 61 = .ok (.iload 10, 2) := by decide +kernel
theorem d1_63 : decode method_3_code 63 = .ok (.if_icmp .ge 69, 3) := by decide +kernel
theorem d1_66 : decode method_3_code 66 = .ok (.iload 6, 2) := by decide +kernel
theorem d1_68 : decode method_3_code 68 = .ok (.iload 9, 2) := by decide +kernel
theorem d1_70 : decode method_3_code 70 = .ok (.iadd, 1) := by decide +kernel
theorem d1_71 : decode method_3_code 71 = .ok (.istore 11, 2) := by decide +kernel
theorem d1_73 : decode method_3_code 73 = .ok (.iload 8, 2) := by decide +kernel
theorem d1_75 : decode method_3_code 75 = .ok (.ifCond .eq 12, 3) := by decide +kernel
theorem d1_87 : decode method_3_code 87 = .ok (.iload_n 0, 1) := by decide +kernel
theorem d1_88 : decode method_3_code 88 = .ok (.iload 6, 2) := by decide +kernel
theorem d1_90 : decode method_3_code 90 = .ok (.isub, 1) := by decide +kernel
theorem d1_91 : decode method_3_code 91 = .ok (.iload 8, 2) := by decide +kernel
theorem d1_93 : decode method_3_code 93 = .ok (.ifCond .eq 13, 3) := by decide +kernel
theorem d1_106 : decode method_3_code 106 = .ok (.iconst 0, 1) := by decide +kernel
theorem d1_96 : decode method_3_code 96 = .ok (.iload_n 0, 1) := by decide +kernel
theorem d1_97 : decode method_3_code 97 = .ok (.iload 11, 2) := by decide +kernel
theorem d1_99 : decode method_3_code 99 = .ok (.if_icmp .le 7, 3) := by decide +kernel
theorem d1_102 : decode method_3_code 102 = .ok (.iconst 1, 1) := by decide +kernel
theorem d1_103 : decode method_3_code 103 = .ok (.goto 4, 3) := by decide +kernel
theorem d1_107 : decode method_3_code 107 = .ok (.isub, 1) := by decide +kernel
theorem d1_108 : decode method_3_code 108 = .ok (.istore 12, 2) := by decide +kernel
theorem d1_110 : decode method_3_code 110 = .ok (.bipush 48, 2) := by decide +kernel
theorem d1_112 : decode method_3_code 112 = .ok (.lload_n 2, 1) := by decide +kernel
theorem d1_113 : decode method_3_code 113 = .ok (.aload 4, 2) := by decide +kernel
theorem d1_115 : decode method_3_code 115 = .ok (.iload 7, 2) := by decide +kernel
theorem d1_117 : decode method_3_code 117 = .ok (.iconst 1, 1) := by decide +kernel
theorem d1_118 : decode method_3_code 118 = .ok (.isub, 1) := by decide +kernel
theorem d1_119 : decode method_3_code 119 = .ok (.iload 12, 2) := by decide +kernel
theorem d1_121 : decode method_3_code 121 = .ok (.isub, 1) := by decide +kernel
theorem d1_122 : decode method_3_code 122 = .ok (.laload, 1) := by decide +kernel
theorem d1_123 : decode method_3_code 123 = .ok (.ldiv, 1) := by decide +kernel
theorem d1_124 : decode method_3_code 124 = .ok (.ldc2_w 7, 3) := by decide +kernel
theorem d1_127 : decode method_3_code 127 = .ok (.lrem, 1) := by decide +kernel
theorem d1_128 : decode method_3_code 128 = .ok (.l2i, 1) := by decide +kernel
theorem d1_129 : decode method_3_code 129 = .ok (.iadd, 1) := by decide +kernel
theorem d1_130 : decode method_3_code 130 = .ok (.i2b, 1) := by decide +kernel
theorem d1_131 : decode method_3_code 131 = .ok (.ireturn, 1) := by decide +kernel
theorem d1_78 : decode method_3_code 78 = .ok (.iload_n 0, 1) := by decide +kernel
theorem d1_79 : decode method_3_code 79 = .ok (.iload 11, 2) := by decide +kernel
theorem d1_81 : decode method_3_code 81 = .ok (.if_icmp .ne 6, 3) := by decide +kernel
theorem d1_84 : decode method_3_code 84 = .ok (.bipush 46, 2) := by decide +kernel
theorem d1_86 : decode method_3_code 86 = .ok (.ireturn, 1) := by decide +kernel
theorem d1_132 : decode method_3_code 132 = .ok (.iload_n 0, 1) := by decide +kernel
theorem d1_133 : decode method_3_code 133 = .ok (.iload 10, 2) := by decide +kernel
theorem d1_135 : decode method_3_code 135 = .ok (.if_icmp .ne 9, 3) := by decide +kernel
theorem d1_138 : decode method_3_code 138 = .ok (.aload_n 1, 1) := by decide +kernel
theorem d1_139 : decode method_3_code 139 = .ok (.bipush 7, 2) := by decide +kernel
theorem d1_141 : decode method_3_code 141 = .ok (.iaload, 1) := by decide +kernel
theorem d1_142 : decode method_3_code 142 = .ok (.i2b, 1) := by decide +kernel
theorem d1_143 : decode method_3_code 143 = .ok (.ireturn, 1) := by decide +kernel
theorem d1_144 : decode method_3_code 144 = .ok (.aload_n 1, 1) := by decide +kernel
theorem d1_145 : decode method_3_code 145 = .ok (.bipush 9, 2) := by decide +kernel
theorem d1_147 : decode method_3_code 147 = .ok (.iaload, 1) := by decide +kernel
theorem d1_148 : decode method_3_code 148 = .ok (.i2b, 1) := by decide +kernel
theorem d1_149 : decode method_3_code 149 = .ok (.ireturn, 1) := by decide +kernel
theorem ef_1 (m : MethodId) (p1 : Int32) (a2 : Addr) (q3 : Int64) (a4 : Addr) : entryFrame m #[(.int p1), (.ref a2), (.long q3), (.ref a4)] 13 = mkF m 0 #[.val (.int p1), .val (.ref a2), .val (.long q3), .second, .val (.ref a4), .unset, .unset, .unset, .unset, .unset, .unset, .unset, .unset] [] := by first | (simp [entryFrame, mkF, argsToLocals, Value.category]; done) | rfl
theorem pn_0 : plainName "com/example/biller/biller/files/PlainValueReadPinLaw" = true := by first | (simp [plainName, overriddenIn]; done) | decide +kernel
def f1 (p1 : Int32) (q3 : Int64) (gs : Nat → Int32) : Int32 := (if p1 < (gs 0) then (nar .byte ((gs 8).toInt8.toInt32)) else (if p1 < (gs 2) then (45 : Int32) else (if p1 < (gs 6) then (if (if (gs 4) = (0 : Int32) then (0 : Int32) else (1 : Int32)) = (0 : Int32) then (nar .byte (((48 : Int32) + (((q3 / (powF (((gs 3) - (1 : Int32)) - ((p1 - (gs 2)) - (if (if (gs 4) = (0 : Int32) then (0 : Int32) else (1 : Int32)) = (0 : Int32) then (0 : Int32) else (if ((gs 2) + (gs 5)) < p1 then (1 : Int32) else (0 : Int32))))).toNatClampNeg)) % (10 : Int64)).toInt32)).toInt8.toInt32)) else (if p1 = ((gs 2) + (gs 5)) then (46 : Int32) else (nar .byte (((48 : Int32) + (((q3 / (powF (((gs 3) - (1 : Int32)) - ((p1 - (gs 2)) - (if (if (gs 4) = (0 : Int32) then (0 : Int32) else (1 : Int32)) = (0 : Int32) then (0 : Int32) else (if ((gs 2) + (gs 5)) < p1 then (1 : Int32) else (0 : Int32))))).toNatClampNeg)) % (10 : Int64)).toInt32)).toInt8.toInt32)))) else (if p1 = (gs 6) then (nar .byte ((gs 7).toInt8.toInt32)) else (nar .byte ((gs 9).toInt8.toInt32))))))
set_option maxRecDepth 65536 in
set_option maxHeartbeats 40000000 in
theorem rm1 (l : Launch) (Z : State) (a0 : Array Value) (hw : ∀ d ∈ tables_1, d.before a0 Z = true) (ws : List Jvm.Cond) (p1 : Int32) (a2 : Addr) (q3 : Int64) (a4 : Addr) (gs : Nat → Int32) (h0 : Heap) (n0 : Nat) (Z0 : n0 ≤ h0.size) (hW : AtW gs) (A_a2 : Ary Z h0 a2 .int 10 (fun i => .int (gs i))) (A_a4 : Ary Z h0 a4 .long 19 (fun i => .long (powF i))) :
    MetFree l (⟨"com/example/biller/biller/files/PlainValueReadPinLaw", "at", "(I[IJ[J)B"⟩ : MethodName) (head1 (Jvm.Cond.code (⟨"com/example/biller/biller/files/PlainValueReadPinLaw", "at", "(I[IJ[J)B"⟩ : MethodName) method_3_code 13 (some .byte) :: ws) ({ frames := 0, cells := 0, slots := 0, locals := 0 } : Room)) (fun a U => a = #[(.int p1), (.ref a2), (.long q3), (.ref a4)] ∧ Z.Warmed39 U.vm ∧ U.heap = h0) (fun _ _ _ _ _ => True) (fun _ U o U' => ∃ v L, o = .returned v ∧ QP (.int (f1 p1 q3 gs)) h0 n0 v U'.heap L ∧ FrameEnd U o U' L ({ frames := 0, cells := 0, slots := 0, locals := 0 } : Room).cells ({ frames := 0, cells := 0, slots := 0, locals := 0 } : Room).slots) := by
  refine MetFree.of_bodySF (plainFor_of_name pn_0) hisR ?_
  intro p e s m args below meth c s₁ Bd hml0 hP hK
  obtain ⟨rfl, hZ, hh⟩ := hP
  have hx := Bd.exec
  have hby := Bd.bytes
  have hml : c.maxLocals = 13 := hml0
  have hown : s.vm.findClass "com/example/biller/biller/files/PlainValueReadPinLaw" = some m.cls := findClass_of_methodNamed Bd.named
  have hnm := (name_of_methodNamed Bd.named Bd.method).1
  have X0 : Stand p l e ({ frames := 0, cells := 0, slots := 0, locals := 0 } : Room) s m #[(.int p1), (.ref a2), (.long q3), (.ref a4)] below meth c s₁ [] 0 0 := Stand.of_body Bd
  have e0 : s₁.heap = h0 := by rw [← hh, Bd.state]; rfl
  have N0 := Fr.nil n0
  refine Go.done (Go.step (fun t k => castTop (ef_1 m p1 a2 q3 a4) k) ?_)
  have KK0 : Keep h0 h0 [] := Keep.refl _ _
  show Go p e below _ (s₁.setTop (mkF m 0 _ []))
  refine gA (q := 1) X0 hx (hb hby d1_0) rfl rfl rfl ?_
  refine gC (q := 2) (v := 0) X0 hx (hb hby d1_1) rfl rfl ?_
  refine Go.step (ldI X0 hx hZ e0 A_a2 (j := (0 : Int32)) (by decide) (by decide) (g := (mkF m 2 _ [(.int (0 : Int32)), (.ref a2)])) rfl rfl (hb hby d1_2)) ?_
  show Go p e below _ (s₁.setTop (mkF m 3 _ [(.int (gs 0))]))
  refine Go.step (fun t k => XS.istore X0.here hx rfl (hb hby d1_3) rfl (l' := #[.val (.int p1), .val (.ref a2), .val (.long q3), .second, .val (.ref a4), .val (.int (gs 0)), .unset, .unset, .unset, .unset, .unset, .unset, .unset]) rfl k) ?_
  show Go p e below _ (s₁.setTop (mkF m 5 _ []))
  refine gA (q := 6) X0 hx (hb hby d1_5) rfl rfl rfl ?_
  refine gC (q := 7) (v := 2) X0 hx (hb hby d1_6) rfl rfl ?_
  refine Go.step (ldI X0 hx hZ e0 A_a2 (j := (2 : Int32)) (by decide) (by decide) (g := (mkF m 7 _ [(.int (2 : Int32)), (.ref a2)])) rfl rfl (hb hby d1_7)) ?_
  show Go p e below _ (s₁.setTop (mkF m 8 _ [(.int (gs 2))]))
  refine Go.step (fun t k => XS.istore X0.here hx rfl (hb hby d1_8) rfl (l' := #[.val (.int p1), .val (.ref a2), .val (.long q3), .second, .val (.ref a4), .val (.int (gs 0)), .val (.int (gs 2)), .unset, .unset, .unset, .unset, .unset, .unset]) rfl k) ?_
  show Go p e below _ (s₁.setTop (mkF m 10 _ []))
  refine gA (q := 11) X0 hx (hb hby d1_10) rfl rfl rfl ?_
  refine gC (q := 12) (v := 3) X0 hx (hb hby d1_11) rfl rfl ?_
  refine Go.step (ldI X0 hx hZ e0 A_a2 (j := (3 : Int32)) (by decide) (by decide) (g := (mkF m 12 _ [(.int (3 : Int32)), (.ref a2)])) rfl rfl (hb hby d1_12)) ?_
  show Go p e below _ (s₁.setTop (mkF m 13 _ [(.int (gs 3))]))
  refine Go.step (fun t k => XS.istore X0.here hx rfl (hb hby d1_13) rfl (l' := #[.val (.int p1), .val (.ref a2), .val (.long q3), .second, .val (.ref a4), .val (.int (gs 0)), .val (.int (gs 2)), .val (.int (gs 3)), .unset, .unset, .unset, .unset, .unset]) rfl k) ?_
  show Go p e below _ (s₁.setTop (mkF m 15 _ []))
  refine gA (q := 16) X0 hx (hb hby d1_15) rfl rfl rfl ?_
  refine gC (q := 17) (v := 4) X0 hx (hb hby d1_16) rfl rfl ?_
  refine Go.step (ldI X0 hx hZ e0 A_a2 (j := (4 : Int32)) (by decide) (by decide) (g := (mkF m 17 _ [(.int (4 : Int32)), (.ref a2)])) rfl rfl (hb hby d1_17)) ?_
  show Go p e below _ (s₁.setTop (mkF m 18 _ [(.int (gs 4))]))
  obtain ⟨v6, hv6⟩ : ∃ z : Int32, z = (if (gs 4) = (0 : Int32) then (0 : Int32) else (1 : Int32)) := ⟨_, rfl⟩
  have J18 : Go p e below (AtF p l e ({ frames := 0, cells := 0, slots := 0, locals := 0 } : Room) s m #[(.int p1), (.ref a2), (.long q3), (.ref a4)] below meth c n0 0 0 h0 (mkF m 26 #[.val (.int p1), .val (.ref a2), .val (.long q3), .second, .val (.ref a4), .val (.int (gs 0)), .val (.int (gs 2)), .val (.int (gs 3)), .unset, .unset, .unset, .unset, .unset] [(.int v6)])) (s₁.setTop (mkF m 18 #[.val (.int p1), .val (.ref a2), .val (.long q3), .second, .val (.ref a4), .val (.int (gs 0)), .val (.int (gs 2)), .val (.int (gs 3)), .unset, .unset, .unset, .unset, .unset] [(.int (gs 4))])) := by
   by_cases hc5 : (gs 4) = (0 : Int32)
   · refine Go.step (fun t k => XS.ifYes X0.here hx rfl (pc0 := 18) (pc' := 25) rfl (hb hby d1_18) rfl ((if0 _ _).trans (teq hc5).1) (by decide) (by decide) k) ?_
     show Go p e below _ (s₁.setTop (mkF m 25 _ []))
     refine gC (q := 26) (v := 0) X0 hx (hb hby d1_25) rfl rfl ?_
     show Go p e below _ (s₁.setTop (mkF m 26 _ [(.int (0 : Int32))]))
     exact Go.here ⟨_, _, by simp only [hv6, if_pos hc5], X0, N0, e0⟩
   · refine Go.step (fun t k => XS.ifNo X0.here hx rfl (hb hby d1_18) rfl ((if0 _ _).trans (feq hc5).1) k) ?_
     show Go p e below _ (s₁.setTop (mkF m 21 _ []))
     refine gC (q := 22) (v := 1) X0 hx (hb hby d1_21) rfl rfl ?_
     refine Go.step (fun t k => XS.goto X0.here hx rfl (pc0 := 22) (pc' := 26) rfl (hb hby d1_22) (by decide) (by decide) k) ?_
     show Go p e below _ (s₁.setTop (mkF m 26 _ [(.int (1 : Int32))]))
     exact Go.here ⟨_, _, by simp only [hv6, if_neg hc5], X0, N0, e0⟩
  obtain ⟨_, st7, T7, Lj7, rfl, X7, N7, e7⟩ := J18
  refine Go.trans st7 ?_
  show Go p e below _ (T7.setTop (mkF m 26 _ [(.int v6)]))
  refine Go.step (fun t k => XS.istore X7.here hx rfl (hb hby d1_26) rfl (l' := #[.val (.int p1), .val (.ref a2), .val (.long q3), .second, .val (.ref a4), .val (.int (gs 0)), .val (.int (gs 2)), .val (.int (gs 3)), .val (.int v6), .unset, .unset, .unset, .unset]) rfl k) ?_
  show Go p e below _ (T7.setTop (mkF m 28 _ []))
  refine gA (q := 29) X7 hx (hb hby d1_28) rfl rfl rfl ?_
  refine gC (q := 30) (v := 5) X7 hx (hb hby d1_29) rfl rfl ?_
  refine Go.step (ldI X7 hx hZ e7 A_a2 (j := (5 : Int32)) (by decide) (by decide) (g := (mkF m 30 _ [(.int (5 : Int32)), (.ref a2)])) rfl rfl (hb hby d1_30)) ?_
  show Go p e below _ (T7.setTop (mkF m 31 _ [(.int (gs 5))]))
  refine Go.step (fun t k => XS.istore X7.here hx rfl (hb hby d1_31) rfl (l' := #[.val (.int p1), .val (.ref a2), .val (.long q3), .second, .val (.ref a4), .val (.int (gs 0)), .val (.int (gs 2)), .val (.int (gs 3)), .val (.int v6), .val (.int (gs 5)), .unset, .unset, .unset]) rfl k) ?_
  show Go p e below _ (T7.setTop (mkF m 33 _ []))
  refine gA (q := 34) X7 hx (hb hby d1_33) rfl rfl rfl ?_
  refine Go.step (fun t k => XS.bipush X7.here hx rfl (hb hby d1_34)  k) ?_
  show Go p e below _ (T7.setTop (mkF m 36 _ [(.int (6 : Int32)), (.ref a2)]))
  refine Go.step (ldI X7 hx hZ e7 A_a2 (j := (6 : Int32)) (by decide) (by decide) (g := (mkF m 36 _ [(.int (6 : Int32)), (.ref a2)])) rfl rfl (hb hby d1_36)) ?_
  show Go p e below _ (T7.setTop (mkF m 37 _ [(.int (gs 6))]))
  refine Go.step (fun t k => XS.istore X7.here hx rfl (hb hby d1_37) rfl (l' := #[.val (.int p1), .val (.ref a2), .val (.long q3), .second, .val (.ref a4), .val (.int (gs 0)), .val (.int (gs 2)), .val (.int (gs 3)), .val (.int v6), .val (.int (gs 5)), .val (.int (gs 6)), .unset, .unset]) rfl k) ?_
  show Go p e below _ (T7.setTop (mkF m 39 _ []))
  refine gI (q := 40) X7 hx (hb hby d1_39) rfl rfl ?_
  refine gJ (q := 42) X7 hx (hb hby d1_40) rfl rfl ?_
  by_cases hc8 : p1 < (gs 0)
  · refine Go.step (fun t k => XS.icmpNo X7.here hx rfl (hb hby d1_42) rfl (tlt hc8).2.1 k) ?_
    show Go p e below _ (T7.setTop (mkF m 45 _ []))
    refine gA (q := 46) X7 hx (hb hby d1_45) rfl rfl rfl ?_
    refine Go.step (fun t k => XS.bipush X7.here hx rfl (hb hby d1_46)  k) ?_
    show Go p e below _ (T7.setTop (mkF m 48 _ [(.int (8 : Int32)), (.ref a2)]))
    refine Go.step (ldI X7 hx hZ e7 A_a2 (j := (8 : Int32)) (by decide) (by decide) (g := (mkF m 48 _ [(.int (8 : Int32)), (.ref a2)])) rfl rfl (hb hby d1_48)) ?_
    show Go p e below _ (T7.setTop (mkF m 49 _ [(.int (gs 8))]))
    refine Go.step (fun t k => XS.i2b X7.here hx rfl (hb hby d1_49) rfl k) ?_
    show Go p e below _ (T7.setTop (mkF m 50 _ [(.int ((gs 8).toInt8.toInt32))]))
    subst hv6
    exact retGN X7 hx Bd.notSynchronized Bd.returns (t := .byte) (by simp) (z' := (nar .byte ((gs 8).toInt8.toInt32))) rfl (hb hby d1_50) ⟨by first | (simp only [f1, if_pos hc8]; done) | rfl | (simp [f1, if_pos hc8]; done), N7, e7⟩ (by decide) (by decide)
  · refine Go.step (fun t k => XS.icmpYes X7.here hx rfl (pc0 := 42) (pc' := 51) rfl (hb hby d1_42) rfl (flt hc8).2.1 (by decide) (by decide) k) ?_
    show Go p e below _ (T7.setTop (mkF m 51 _ []))
    refine gI (q := 52) X7 hx (hb hby d1_51) rfl rfl ?_
    refine gJ (q := 54) X7 hx (hb hby d1_52) rfl rfl ?_
    by_cases hc9 : p1 < (gs 2)
    · refine Go.step (fun t k => XS.icmpNo X7.here hx rfl (hb hby d1_54) rfl (tlt hc9).2.1 k) ?_
      show Go p e below _ (T7.setTop (mkF m 57 _ []))
      refine Go.step (fun t k => XS.bipush X7.here hx rfl (hb hby d1_57)  k) ?_
      show Go p e below _ (T7.setTop (mkF m 59 _ [(.int (45 : Int32))]))
      subst hv6
      exact retGN X7 hx Bd.notSynchronized Bd.returns (t := .byte) (by simp) (z' := (45 : Int32)) rfl (hb hby d1_59) ⟨by first | (simp only [f1, if_neg hc8, if_pos hc9]; done) | rfl | (simp [f1, if_neg hc8, if_pos hc9]; done), N7, e7⟩ (by decide) (by decide)
    · refine Go.step (fun t k => XS.icmpYes X7.here hx rfl (pc0 := 54) (pc' := 60) rfl (hb hby d1_54) rfl (flt hc9).2.1 (by decide) (by decide) k) ?_
      show Go p e below _ (T7.setTop (mkF m 60 _ []))
      refine gI (q := 61) X7 hx (hb hby d1_60) rfl rfl ?_
      refine gJ (q := 63) X7 hx (hb hby d1_61) rfl rfl ?_
      by_cases hc10 : p1 < (gs 6)
      · refine Go.step (fun t k => XS.icmpNo X7.here hx rfl (hb hby d1_63) rfl (tlt hc10).2.1 k) ?_
        show Go p e below _ (T7.setTop (mkF m 66 _ []))
        refine gJ (q := 68) X7 hx (hb hby d1_66) rfl rfl ?_
        refine gJ (q := 70) X7 hx (hb hby d1_68) rfl rfl ?_
        refine Go.step (fun t k => XS.iadd X7.here hx rfl (hb hby d1_70) rfl k) ?_
        show Go p e below _ (T7.setTop (mkF m 71 _ [(.int ((gs 2) + (gs 5)))]))
        refine nameIt (fun zz : Int32 => Go p e below _ (T7.setTop (mkF m 71 #[.val (.int p1), .val (.ref a2), .val (.long q3), .second, .val (.ref a4), .val (.int (gs 0)), .val (.int (gs 2)), .val (.int (gs 3)), .val (.int v6), .val (.int (gs 5)), .val (.int (gs 6)), .unset, .unset] [(.int zz)]))) ((gs 2) + (gs 5)) ?_
        intro v11 hv11
        show Go p e below _ (T7.setTop (mkF m 71 _ [(.int v11)]))
        refine Go.step (fun t k => XS.istore X7.here hx rfl (hb hby d1_71) rfl (l' := #[.val (.int p1), .val (.ref a2), .val (.long q3), .second, .val (.ref a4), .val (.int (gs 0)), .val (.int (gs 2)), .val (.int (gs 3)), .val (.int v6), .val (.int (gs 5)), .val (.int (gs 6)), .val (.int v11), .unset]) rfl k) ?_
        show Go p e below _ (T7.setTop (mkF m 73 _ []))
        refine gJ (q := 75) X7 hx (hb hby d1_73) rfl rfl ?_
        by_cases hc12 : v6 = (0 : Int32)
        · refine Go.step (fun t k => XS.ifYes X7.here hx rfl (pc0 := 75) (pc' := 87) rfl (hb hby d1_75) rfl ((if0 _ _).trans (teq hc12).1) (by decide) (by decide) k) ?_
          show Go p e below _ (T7.setTop (mkF m 87 _ []))
          refine gI (q := 88) X7 hx (hb hby d1_87) rfl rfl ?_
          refine gJ (q := 90) X7 hx (hb hby d1_88) rfl rfl ?_
          refine Go.step (fun t k => XS.isub X7.here hx rfl (hb hby d1_90) rfl k) ?_
          show Go p e below _ (T7.setTop (mkF m 91 _ [(.int (p1 - (gs 2)))]))
          refine gJ (q := 93) X7 hx (hb hby d1_91) rfl rfl ?_
          obtain ⟨v15, hv15⟩ : ∃ z : Int32, z = (if v6 = (0 : Int32) then (0 : Int32) else (if v11 < p1 then (1 : Int32) else (0 : Int32))) := ⟨_, rfl⟩
          have J93 : Go p e below (AtF p l e ({ frames := 0, cells := 0, slots := 0, locals := 0 } : Room) s m #[(.int p1), (.ref a2), (.long q3), (.ref a4)] below meth c n0 0 0 h0 (mkF m 107 #[.val (.int p1), .val (.ref a2), .val (.long q3), .second, .val (.ref a4), .val (.int (gs 0)), .val (.int (gs 2)), .val (.int (gs 3)), .val (.int v6), .val (.int (gs 5)), .val (.int (gs 6)), .val (.int v11), .unset] [(.int v15), (.int (p1 - (gs 2)))])) (T7.setTop (mkF m 93 #[.val (.int p1), .val (.ref a2), .val (.long q3), .second, .val (.ref a4), .val (.int (gs 0)), .val (.int (gs 2)), .val (.int (gs 3)), .val (.int v6), .val (.int (gs 5)), .val (.int (gs 6)), .val (.int v11), .unset] [(.int v6), (.int (p1 - (gs 2)))])) := by
           by_cases hc13 : v6 = (0 : Int32)
           · refine Go.step (fun t k => XS.ifYes X7.here hx rfl (pc0 := 93) (pc' := 106) rfl (hb hby d1_93) rfl ((if0 _ _).trans (teq hc13).1) (by decide) (by decide) k) ?_
             show Go p e below _ (T7.setTop (mkF m 106 _ [(.int (p1 - (gs 2)))]))
             refine gC (q := 107) (v := 0) X7 hx (hb hby d1_106) rfl rfl ?_
             show Go p e below _ (T7.setTop (mkF m 107 _ [(.int (0 : Int32)), (.int (p1 - (gs 2)))]))
             exact Go.here ⟨_, _, by simp only [hv15, if_pos hc13], X7, N7, e7⟩
           · refine Go.step (fun t k => XS.ifNo X7.here hx rfl (hb hby d1_93) rfl ((if0 _ _).trans (feq hc13).1) k) ?_
             show Go p e below _ (T7.setTop (mkF m 96 _ [(.int (p1 - (gs 2)))]))
             refine gI (q := 97) X7 hx (hb hby d1_96) rfl rfl ?_
             refine gJ (q := 99) X7 hx (hb hby d1_97) rfl rfl ?_
             by_cases hc14 : v11 < p1
             · refine Go.step (fun t k => XS.icmpNo X7.here hx rfl (hb hby d1_99) rfl (tlt hc14).2.2.2 k) ?_
               show Go p e below _ (T7.setTop (mkF m 102 _ [(.int (p1 - (gs 2)))]))
               refine gC (q := 103) (v := 1) X7 hx (hb hby d1_102) rfl rfl ?_
               refine Go.step (fun t k => XS.goto X7.here hx rfl (pc0 := 103) (pc' := 107) rfl (hb hby d1_103) (by decide) (by decide) k) ?_
               show Go p e below _ (T7.setTop (mkF m 107 _ [(.int (1 : Int32)), (.int (p1 - (gs 2)))]))
               exact Go.here ⟨_, _, by simp only [hv15, if_neg hc13, if_pos hc14], X7, N7, e7⟩
             · refine Go.step (fun t k => XS.icmpYes X7.here hx rfl (pc0 := 99) (pc' := 106) rfl (hb hby d1_99) rfl (flt hc14).2.2.2 (by decide) (by decide) k) ?_
               show Go p e below _ (T7.setTop (mkF m 106 _ [(.int (p1 - (gs 2)))]))
               refine gC (q := 107) (v := 0) X7 hx (hb hby d1_106) rfl rfl ?_
               show Go p e below _ (T7.setTop (mkF m 107 _ [(.int (0 : Int32)), (.int (p1 - (gs 2)))]))
               exact Go.here ⟨_, _, by simp only [hv15, if_neg hc13, if_neg hc14], X7, N7, e7⟩
          obtain ⟨_, st16, T16, Lj16, rfl, X16, N16, e16⟩ := J93
          refine Go.trans st16 ?_
          show Go p e below _ (T16.setTop (mkF m 107 _ [(.int v15), (.int (p1 - (gs 2)))]))
          refine Go.step (fun t k => XS.isub X16.here hx rfl (hb hby d1_107) rfl k) ?_
          show Go p e below _ (T16.setTop (mkF m 108 _ [(.int ((p1 - (gs 2)) - v15))]))
          refine nameIt (fun zz : Int32 => Go p e below _ (T16.setTop (mkF m 108 #[.val (.int p1), .val (.ref a2), .val (.long q3), .second, .val (.ref a4), .val (.int (gs 0)), .val (.int (gs 2)), .val (.int (gs 3)), .val (.int v6), .val (.int (gs 5)), .val (.int (gs 6)), .val (.int v11), .unset] [(.int zz)]))) ((p1 - (gs 2)) - v15) ?_
          intro v17 hv17
          show Go p e below _ (T16.setTop (mkF m 108 _ [(.int v17)]))
          refine Go.step (fun t k => XS.istore X16.here hx rfl (hb hby d1_108) rfl (l' := #[.val (.int p1), .val (.ref a2), .val (.long q3), .second, .val (.ref a4), .val (.int (gs 0)), .val (.int (gs 2)), .val (.int (gs 3)), .val (.int v6), .val (.int (gs 5)), .val (.int (gs 6)), .val (.int v11), .val (.int v17)]) rfl k) ?_
          show Go p e below _ (T16.setTop (mkF m 110 _ []))
          refine Go.step (fun t k => XS.bipush X16.here hx rfl (hb hby d1_110)  k) ?_
          show Go p e below _ (T16.setTop (mkF m 112 _ [(.int (48 : Int32))]))
          refine Go.step (fun t k => XS.lloadN X16.here hx rfl (hb hby d1_112) rfl k) ?_
          show Go p e below _ (T16.setTop (mkF m 113 _ [(.long q3), (.int (48 : Int32))]))
          refine gB (q := 115) X16 hx (hb hby d1_113) rfl rfl rfl ?_
          refine gJ (q := 117) X16 hx (hb hby d1_115) rfl rfl ?_
          refine gC (q := 118) (v := 1) X16 hx (hb hby d1_117) rfl rfl ?_
          refine Go.step (fun t k => XS.isub X16.here hx rfl (hb hby d1_118) rfl k) ?_
          show Go p e below _ (T16.setTop (mkF m 119 _ [(.int ((gs 3) - (1 : Int32))), (.ref a4), (.long q3), (.int (48 : Int32))]))
          refine gJ (q := 121) X16 hx (hb hby d1_119) rfl rfl ?_
          refine Go.step (fun t k => XS.isub X16.here hx rfl (hb hby d1_121) rfl k) ?_
          show Go p e below _ (T16.setTop (mkF m 122 _ [(.int (((gs 3) - (1 : Int32)) - v17)), (.ref a4), (.long q3), (.int (48 : Int32))]))
          refine Go.step (ldJ X16 hx hZ e16 A_a4 (j := (((gs 3) - (1 : Int32)) - v17)) (by subst_vars; exact (own_ix hW hc9 hc10 (Or.inl hc12)).1) (by subst_vars; exact (own_ix hW hc9 hc10 (Or.inl hc12)).2) (g := (mkF m 122 _ [(.int (((gs 3) - (1 : Int32)) - v17)), (.ref a4), (.long q3), (.int (48 : Int32))])) rfl rfl (hb hby d1_122)) ?_
          show Go p e below _ (T16.setTop (mkF m 123 _ [(.long (powF (((gs 3) - (1 : Int32)) - v17).toNatClampNeg)), (.long q3), (.int (48 : Int32))]))
          refine Go.step (fun t k => XS.ldiv X16.here hx rfl (hb hby d1_123) rfl (by subst_vars; exact powF_ne (own_ix hW hc9 hc10 (Or.inl hc12)).2) k) ?_
          show Go p e below _ (T16.setTop (mkF m 124 _ [(.long (q3 / (powF (((gs 3) - (1 : Int32)) - v17).toNatClampNeg))), (.int (48 : Int32))]))
          refine Go.step (X16.ldc2Long hx hown (mvT hZ (hw _ (List.mem_of_getElem? (i := 1) rfl))) (g := (mkF m 124 #[.val (.int p1), .val (.ref a2), .val (.long q3), .second, .val (.ref a4), .val (.int (gs 0)), .val (.int (gs 2)), .val (.int (gs 3)), .val (.int v6), .val (.int (gs 5)), .val (.int (gs 6)), .val (.int v11), .val (.int v17)] [(.long (q3 / (powF (((gs 3) - (1 : Int32)) - v17).toNatClampNeg))), (.int (48 : Int32))])) rfl (hb hby d1_124)) ?_
          show Go p e below _ (T16.setTop (mkF m 127 _ [(.long (10 : Int64)), (.long (q3 / (powF (((gs 3) - (1 : Int32)) - v17).toNatClampNeg))), (.int (48 : Int32))]))
          refine Go.step (fun t (k : Steps p.tables e below (T16.setTop (mkF m 128 #[.val (.int p1), .val (.ref a2), .val (.long q3), .second, .val (.ref a4), .val (.int (gs 0)), .val (.int (gs 2)), .val (.int (gs 3)), .val (.int v6), .val (.int (gs 5)), .val (.int (gs 6)), .val (.int v11), .val (.int v17)] [(.long ((q3 / (powF (((gs 3) - (1 : Int32)) - v17).toNatClampNeg)) % (10 : Int64))), (.int (48 : Int32))])) t) => XS.lrem X16.here hx rfl (hb hby d1_127) rfl (by decide) (by rw [lrem_mod]; exact k)) ?_
          show Go p e below _ (T16.setTop (mkF m 128 _ [(.long ((q3 / (powF (((gs 3) - (1 : Int32)) - v17).toNatClampNeg)) % (10 : Int64))), (.int (48 : Int32))]))
          refine Go.step (fun t k => XS.l2i X16.here hx rfl (hb hby d1_128) rfl k) ?_
          show Go p e below _ (T16.setTop (mkF m 129 _ [(.int (((q3 / (powF (((gs 3) - (1 : Int32)) - v17).toNatClampNeg)) % (10 : Int64)).toInt32)), (.int (48 : Int32))]))
          refine Go.step (fun t k => XS.iadd X16.here hx rfl (hb hby d1_129) rfl k) ?_
          show Go p e below _ (T16.setTop (mkF m 130 _ [(.int ((48 : Int32) + (((q3 / (powF (((gs 3) - (1 : Int32)) - v17).toNatClampNeg)) % (10 : Int64)).toInt32)))]))
          refine Go.step (fun t k => XS.i2b X16.here hx rfl (hb hby d1_130) rfl k) ?_
          show Go p e below _ (T16.setTop (mkF m 131 _ [(.int (((48 : Int32) + (((q3 / (powF (((gs 3) - (1 : Int32)) - v17).toNatClampNeg)) % (10 : Int64)).toInt32)).toInt8.toInt32))]))
          subst hv17
          subst hv15
          subst hv11
          subst hv6
          exact retGN X16 hx Bd.notSynchronized Bd.returns (t := .byte) (by simp) (z' := (nar .byte (((48 : Int32) + (((q3 / (powF (((gs 3) - (1 : Int32)) - ((p1 - (gs 2)) - (if (if (gs 4) = (0 : Int32) then (0 : Int32) else (1 : Int32)) = (0 : Int32) then (0 : Int32) else (if ((gs 2) + (gs 5)) < p1 then (1 : Int32) else (0 : Int32))))).toNatClampNeg)) % (10 : Int64)).toInt32)).toInt8.toInt32))) rfl (hb hby d1_131) ⟨by first | (simp only [f1, if_neg hc8, if_neg hc9, if_pos hc10, if_pos hc12]; done) | rfl | (simp [f1, if_neg hc8, if_neg hc9, if_pos hc10, if_pos hc12]; done), N16, e16⟩ (by decide) (by decide)
        · refine Go.step (fun t k => XS.ifNo X7.here hx rfl (hb hby d1_75) rfl ((if0 _ _).trans (feq hc12).1) k) ?_
          show Go p e below _ (T7.setTop (mkF m 78 _ []))
          refine gI (q := 79) X7 hx (hb hby d1_78) rfl rfl ?_
          refine gJ (q := 81) X7 hx (hb hby d1_79) rfl rfl ?_
          by_cases hc18 : p1 = v11
          · refine Go.step (fun t k => XS.icmpNo X7.here hx rfl (hb hby d1_81) rfl (teq hc18).2 k) ?_
            show Go p e below _ (T7.setTop (mkF m 84 _ []))
            refine Go.step (fun t k => XS.bipush X7.here hx rfl (hb hby d1_84)  k) ?_
            show Go p e below _ (T7.setTop (mkF m 86 _ [(.int (46 : Int32))]))
            subst hv11
            subst hv6
            exact retGN X7 hx Bd.notSynchronized Bd.returns (t := .byte) (by simp) (z' := (46 : Int32)) rfl (hb hby d1_86) ⟨by first | (simp only [f1, if_neg hc8, if_neg hc9, if_pos hc10, if_neg hc12, if_pos hc18]; done) | rfl | (simp [f1, if_neg hc8, if_neg hc9, if_pos hc10, if_neg hc12, if_pos hc18]; done), N7, e7⟩ (by decide) (by decide)
          · refine Go.step (fun t k => XS.icmpYes X7.here hx rfl (pc0 := 81) (pc' := 87) rfl (hb hby d1_81) rfl (feq hc18).2 (by decide) (by decide) k) ?_
            show Go p e below _ (T7.setTop (mkF m 87 _ []))
            refine gI (q := 88) X7 hx (hb hby d1_87) rfl rfl ?_
            refine gJ (q := 90) X7 hx (hb hby d1_88) rfl rfl ?_
            refine Go.step (fun t k => XS.isub X7.here hx rfl (hb hby d1_90) rfl k) ?_
            show Go p e below _ (T7.setTop (mkF m 91 _ [(.int (p1 - (gs 2)))]))
            refine gJ (q := 93) X7 hx (hb hby d1_91) rfl rfl ?_
            obtain ⟨v21, hv21⟩ : ∃ z : Int32, z = (if v6 = (0 : Int32) then (0 : Int32) else (if v11 < p1 then (1 : Int32) else (0 : Int32))) := ⟨_, rfl⟩
            have J93 : Go p e below (AtF p l e ({ frames := 0, cells := 0, slots := 0, locals := 0 } : Room) s m #[(.int p1), (.ref a2), (.long q3), (.ref a4)] below meth c n0 0 0 h0 (mkF m 107 #[.val (.int p1), .val (.ref a2), .val (.long q3), .second, .val (.ref a4), .val (.int (gs 0)), .val (.int (gs 2)), .val (.int (gs 3)), .val (.int v6), .val (.int (gs 5)), .val (.int (gs 6)), .val (.int v11), .unset] [(.int v21), (.int (p1 - (gs 2)))])) (T7.setTop (mkF m 93 #[.val (.int p1), .val (.ref a2), .val (.long q3), .second, .val (.ref a4), .val (.int (gs 0)), .val (.int (gs 2)), .val (.int (gs 3)), .val (.int v6), .val (.int (gs 5)), .val (.int (gs 6)), .val (.int v11), .unset] [(.int v6), (.int (p1 - (gs 2)))])) := by
             by_cases hc19 : v6 = (0 : Int32)
             · refine Go.step (fun t k => XS.ifYes X7.here hx rfl (pc0 := 93) (pc' := 106) rfl (hb hby d1_93) rfl ((if0 _ _).trans (teq hc19).1) (by decide) (by decide) k) ?_
               show Go p e below _ (T7.setTop (mkF m 106 _ [(.int (p1 - (gs 2)))]))
               refine gC (q := 107) (v := 0) X7 hx (hb hby d1_106) rfl rfl ?_
               show Go p e below _ (T7.setTop (mkF m 107 _ [(.int (0 : Int32)), (.int (p1 - (gs 2)))]))
               exact Go.here ⟨_, _, by simp only [hv21, if_pos hc19], X7, N7, e7⟩
             · refine Go.step (fun t k => XS.ifNo X7.here hx rfl (hb hby d1_93) rfl ((if0 _ _).trans (feq hc19).1) k) ?_
               show Go p e below _ (T7.setTop (mkF m 96 _ [(.int (p1 - (gs 2)))]))
               refine gI (q := 97) X7 hx (hb hby d1_96) rfl rfl ?_
               refine gJ (q := 99) X7 hx (hb hby d1_97) rfl rfl ?_
               by_cases hc20 : v11 < p1
               · refine Go.step (fun t k => XS.icmpNo X7.here hx rfl (hb hby d1_99) rfl (tlt hc20).2.2.2 k) ?_
                 show Go p e below _ (T7.setTop (mkF m 102 _ [(.int (p1 - (gs 2)))]))
                 refine gC (q := 103) (v := 1) X7 hx (hb hby d1_102) rfl rfl ?_
                 refine Go.step (fun t k => XS.goto X7.here hx rfl (pc0 := 103) (pc' := 107) rfl (hb hby d1_103) (by decide) (by decide) k) ?_
                 show Go p e below _ (T7.setTop (mkF m 107 _ [(.int (1 : Int32)), (.int (p1 - (gs 2)))]))
                 exact Go.here ⟨_, _, by simp only [hv21, if_neg hc19, if_pos hc20], X7, N7, e7⟩
               · refine Go.step (fun t k => XS.icmpYes X7.here hx rfl (pc0 := 99) (pc' := 106) rfl (hb hby d1_99) rfl (flt hc20).2.2.2 (by decide) (by decide) k) ?_
                 show Go p e below _ (T7.setTop (mkF m 106 _ [(.int (p1 - (gs 2)))]))
                 refine gC (q := 107) (v := 0) X7 hx (hb hby d1_106) rfl rfl ?_
                 show Go p e below _ (T7.setTop (mkF m 107 _ [(.int (0 : Int32)), (.int (p1 - (gs 2)))]))
                 exact Go.here ⟨_, _, by simp only [hv21, if_neg hc19, if_neg hc20], X7, N7, e7⟩
            obtain ⟨_, st22, T22, Lj22, rfl, X22, N22, e22⟩ := J93
            refine Go.trans st22 ?_
            show Go p e below _ (T22.setTop (mkF m 107 _ [(.int v21), (.int (p1 - (gs 2)))]))
            refine Go.step (fun t k => XS.isub X22.here hx rfl (hb hby d1_107) rfl k) ?_
            show Go p e below _ (T22.setTop (mkF m 108 _ [(.int ((p1 - (gs 2)) - v21))]))
            refine nameIt (fun zz : Int32 => Go p e below _ (T22.setTop (mkF m 108 #[.val (.int p1), .val (.ref a2), .val (.long q3), .second, .val (.ref a4), .val (.int (gs 0)), .val (.int (gs 2)), .val (.int (gs 3)), .val (.int v6), .val (.int (gs 5)), .val (.int (gs 6)), .val (.int v11), .unset] [(.int zz)]))) ((p1 - (gs 2)) - v21) ?_
            intro v23 hv23
            show Go p e below _ (T22.setTop (mkF m 108 _ [(.int v23)]))
            refine Go.step (fun t k => XS.istore X22.here hx rfl (hb hby d1_108) rfl (l' := #[.val (.int p1), .val (.ref a2), .val (.long q3), .second, .val (.ref a4), .val (.int (gs 0)), .val (.int (gs 2)), .val (.int (gs 3)), .val (.int v6), .val (.int (gs 5)), .val (.int (gs 6)), .val (.int v11), .val (.int v23)]) rfl k) ?_
            show Go p e below _ (T22.setTop (mkF m 110 _ []))
            refine Go.step (fun t k => XS.bipush X22.here hx rfl (hb hby d1_110)  k) ?_
            show Go p e below _ (T22.setTop (mkF m 112 _ [(.int (48 : Int32))]))
            refine Go.step (fun t k => XS.lloadN X22.here hx rfl (hb hby d1_112) rfl k) ?_
            show Go p e below _ (T22.setTop (mkF m 113 _ [(.long q3), (.int (48 : Int32))]))
            refine gB (q := 115) X22 hx (hb hby d1_113) rfl rfl rfl ?_
            refine gJ (q := 117) X22 hx (hb hby d1_115) rfl rfl ?_
            refine gC (q := 118) (v := 1) X22 hx (hb hby d1_117) rfl rfl ?_
            refine Go.step (fun t k => XS.isub X22.here hx rfl (hb hby d1_118) rfl k) ?_
            show Go p e below _ (T22.setTop (mkF m 119 _ [(.int ((gs 3) - (1 : Int32))), (.ref a4), (.long q3), (.int (48 : Int32))]))
            refine gJ (q := 121) X22 hx (hb hby d1_119) rfl rfl ?_
            refine Go.step (fun t k => XS.isub X22.here hx rfl (hb hby d1_121) rfl k) ?_
            show Go p e below _ (T22.setTop (mkF m 122 _ [(.int (((gs 3) - (1 : Int32)) - v23)), (.ref a4), (.long q3), (.int (48 : Int32))]))
            refine Go.step (ldJ X22 hx hZ e22 A_a4 (j := (((gs 3) - (1 : Int32)) - v23)) (by subst_vars; exact (own_ix hW hc9 hc10 (Or.inr hc18)).1) (by subst_vars; exact (own_ix hW hc9 hc10 (Or.inr hc18)).2) (g := (mkF m 122 _ [(.int (((gs 3) - (1 : Int32)) - v23)), (.ref a4), (.long q3), (.int (48 : Int32))])) rfl rfl (hb hby d1_122)) ?_
            show Go p e below _ (T22.setTop (mkF m 123 _ [(.long (powF (((gs 3) - (1 : Int32)) - v23).toNatClampNeg)), (.long q3), (.int (48 : Int32))]))
            refine Go.step (fun t k => XS.ldiv X22.here hx rfl (hb hby d1_123) rfl (by subst_vars; exact powF_ne (own_ix hW hc9 hc10 (Or.inr hc18)).2) k) ?_
            show Go p e below _ (T22.setTop (mkF m 124 _ [(.long (q3 / (powF (((gs 3) - (1 : Int32)) - v23).toNatClampNeg))), (.int (48 : Int32))]))
            refine Go.step (X22.ldc2Long hx hown (mvT hZ (hw _ (List.mem_of_getElem? (i := 1) rfl))) (g := (mkF m 124 #[.val (.int p1), .val (.ref a2), .val (.long q3), .second, .val (.ref a4), .val (.int (gs 0)), .val (.int (gs 2)), .val (.int (gs 3)), .val (.int v6), .val (.int (gs 5)), .val (.int (gs 6)), .val (.int v11), .val (.int v23)] [(.long (q3 / (powF (((gs 3) - (1 : Int32)) - v23).toNatClampNeg))), (.int (48 : Int32))])) rfl (hb hby d1_124)) ?_
            show Go p e below _ (T22.setTop (mkF m 127 _ [(.long (10 : Int64)), (.long (q3 / (powF (((gs 3) - (1 : Int32)) - v23).toNatClampNeg))), (.int (48 : Int32))]))
            refine Go.step (fun t (k : Steps p.tables e below (T22.setTop (mkF m 128 #[.val (.int p1), .val (.ref a2), .val (.long q3), .second, .val (.ref a4), .val (.int (gs 0)), .val (.int (gs 2)), .val (.int (gs 3)), .val (.int v6), .val (.int (gs 5)), .val (.int (gs 6)), .val (.int v11), .val (.int v23)] [(.long ((q3 / (powF (((gs 3) - (1 : Int32)) - v23).toNatClampNeg)) % (10 : Int64))), (.int (48 : Int32))])) t) => XS.lrem X22.here hx rfl (hb hby d1_127) rfl (by decide) (by rw [lrem_mod]; exact k)) ?_
            show Go p e below _ (T22.setTop (mkF m 128 _ [(.long ((q3 / (powF (((gs 3) - (1 : Int32)) - v23).toNatClampNeg)) % (10 : Int64))), (.int (48 : Int32))]))
            refine Go.step (fun t k => XS.l2i X22.here hx rfl (hb hby d1_128) rfl k) ?_
            show Go p e below _ (T22.setTop (mkF m 129 _ [(.int (((q3 / (powF (((gs 3) - (1 : Int32)) - v23).toNatClampNeg)) % (10 : Int64)).toInt32)), (.int (48 : Int32))]))
            refine Go.step (fun t k => XS.iadd X22.here hx rfl (hb hby d1_129) rfl k) ?_
            show Go p e below _ (T22.setTop (mkF m 130 _ [(.int ((48 : Int32) + (((q3 / (powF (((gs 3) - (1 : Int32)) - v23).toNatClampNeg)) % (10 : Int64)).toInt32)))]))
            refine Go.step (fun t k => XS.i2b X22.here hx rfl (hb hby d1_130) rfl k) ?_
            show Go p e below _ (T22.setTop (mkF m 131 _ [(.int (((48 : Int32) + (((q3 / (powF (((gs 3) - (1 : Int32)) - v23).toNatClampNeg)) % (10 : Int64)).toInt32)).toInt8.toInt32))]))
            subst hv23
            subst hv21
            subst hv11
            subst hv6
            exact retGN X22 hx Bd.notSynchronized Bd.returns (t := .byte) (by simp) (z' := (nar .byte (((48 : Int32) + (((q3 / (powF (((gs 3) - (1 : Int32)) - ((p1 - (gs 2)) - (if (if (gs 4) = (0 : Int32) then (0 : Int32) else (1 : Int32)) = (0 : Int32) then (0 : Int32) else (if ((gs 2) + (gs 5)) < p1 then (1 : Int32) else (0 : Int32))))).toNatClampNeg)) % (10 : Int64)).toInt32)).toInt8.toInt32))) rfl (hb hby d1_131) ⟨by first | (simp only [f1, if_neg hc8, if_neg hc9, if_pos hc10, if_neg hc12, if_neg hc18]; done) | rfl | (simp [f1, if_neg hc8, if_neg hc9, if_pos hc10, if_neg hc12, if_neg hc18]; done), N22, e22⟩ (by decide) (by decide)
      · refine Go.step (fun t k => XS.icmpYes X7.here hx rfl (pc0 := 63) (pc' := 132) rfl (hb hby d1_63) rfl (flt hc10).2.1 (by decide) (by decide) k) ?_
        show Go p e below _ (T7.setTop (mkF m 132 _ []))
        refine gI (q := 133) X7 hx (hb hby d1_132) rfl rfl ?_
        refine gJ (q := 135) X7 hx (hb hby d1_133) rfl rfl ?_
        by_cases hc24 : p1 = (gs 6)
        · refine Go.step (fun t k => XS.icmpNo X7.here hx rfl (hb hby d1_135) rfl (teq hc24).2 k) ?_
          show Go p e below _ (T7.setTop (mkF m 138 _ []))
          refine gA (q := 139) X7 hx (hb hby d1_138) rfl rfl rfl ?_
          refine Go.step (fun t k => XS.bipush X7.here hx rfl (hb hby d1_139)  k) ?_
          show Go p e below _ (T7.setTop (mkF m 141 _ [(.int (7 : Int32)), (.ref a2)]))
          refine Go.step (ldI X7 hx hZ e7 A_a2 (j := (7 : Int32)) (by decide) (by decide) (g := (mkF m 141 _ [(.int (7 : Int32)), (.ref a2)])) rfl rfl (hb hby d1_141)) ?_
          show Go p e below _ (T7.setTop (mkF m 142 _ [(.int (gs 7))]))
          refine Go.step (fun t k => XS.i2b X7.here hx rfl (hb hby d1_142) rfl k) ?_
          show Go p e below _ (T7.setTop (mkF m 143 _ [(.int ((gs 7).toInt8.toInt32))]))
          subst hv6
          exact retGN X7 hx Bd.notSynchronized Bd.returns (t := .byte) (by simp) (z' := (nar .byte ((gs 7).toInt8.toInt32))) rfl (hb hby d1_143) ⟨by first | (simp only [f1, if_neg hc8, if_neg hc9, if_neg hc10, if_pos hc24]; done) | rfl | (simp [f1, if_neg hc8, if_neg hc9, if_neg hc10, if_pos hc24]; done), N7, e7⟩ (by decide) (by decide)
        · refine Go.step (fun t k => XS.icmpYes X7.here hx rfl (pc0 := 135) (pc' := 144) rfl (hb hby d1_135) rfl (feq hc24).2 (by decide) (by decide) k) ?_
          show Go p e below _ (T7.setTop (mkF m 144 _ []))
          refine gA (q := 145) X7 hx (hb hby d1_144) rfl rfl rfl ?_
          refine Go.step (fun t k => XS.bipush X7.here hx rfl (hb hby d1_145)  k) ?_
          show Go p e below _ (T7.setTop (mkF m 147 _ [(.int (9 : Int32)), (.ref a2)]))
          refine Go.step (ldI X7 hx hZ e7 A_a2 (j := (9 : Int32)) (by decide) (by decide) (g := (mkF m 147 _ [(.int (9 : Int32)), (.ref a2)])) rfl rfl (hb hby d1_147)) ?_
          show Go p e below _ (T7.setTop (mkF m 148 _ [(.int (gs 9))]))
          refine Go.step (fun t k => XS.i2b X7.here hx rfl (hb hby d1_148) rfl k) ?_
          show Go p e below _ (T7.setTop (mkF m 149 _ [(.int ((gs 9).toInt8.toInt32))]))
          subst hv6
          exact retGN X7 hx Bd.notSynchronized Bd.returns (t := .byte) (by simp) (z' := (nar .byte ((gs 9).toInt8.toInt32))) rfl (hb hby d1_149) ⟨by first | (simp only [f1, if_neg hc8, if_neg hc9, if_neg hc10, if_neg hc24]; done) | rfl | (simp [f1, if_neg hc8, if_neg hc9, if_neg hc10, if_neg hc24]; done), N7, e7⟩ (by decide) (by decide)
theorem d2_0 : decode prog_81_method_1_code 0 = .ok (.aload_n 0, 1) := by decide +kernel
theorem d2_1 : decode prog_81_method_1_code 1 = .ok (.invokespecial 3, 3) := by decide +kernel
theorem d2_4 : decode prog_81_method_1_code 4 = .ok (.return_, 1) := by decide +kernel
theorem ef_2 (m : MethodId) (a1 : Addr) : entryFrame m #[(.ref a1)] 1 = mkF m 0 #[.val (.ref a1)] [] := by first | (simp [entryFrame, mkF, argsToLocals, Value.category]; done) | rfl
theorem pn_1 : plainName "com/example/biller/biller/files/PlainValue" = true := by first | (simp [plainName, overriddenIn]; done) | decide +kernel
set_option maxRecDepth 65536 in
set_option maxHeartbeats 40000000 in
theorem rm2 (l : Launch) (Z : State) (a0 : Array Value) (hw : ∀ d ∈ tables_1, d.before a0 Z = true) (ws : List Jvm.Cond) (a1 : Addr) (h0 : Heap) (n0 : Nat) (Z0 : n0 ≤ h0.size) :
    MetFree l (⟨"com/example/biller/biller/files/PlainValue", "<init>", "()V"⟩ : MethodName) (head1 (Jvm.Cond.code (⟨"com/example/biller/biller/files/PlainValue", "<init>", "()V"⟩ : MethodName) prog_81_method_1_code 1 none :: ws) ({ frames := 1, cells := 0, slots := 0, locals := 12 } : Room)) (fun a U => a = #[(.ref a1)] ∧ Z.Warmed39 U.vm ∧ U.heap = h0) (fun _ _ _ _ _ => True) (fun _ U o U' => ∃ v L, o = .returned v ∧ QV h0 n0 v U'.heap L ∧ FrameEnd U o U' L ({ frames := 1, cells := 0, slots := 0, locals := 12 } : Room).cells ({ frames := 1, cells := 0, slots := 0, locals := 12 } : Room).slots) := by
  refine MetFree.of_bodySF (plainFor_of_name pn_1) hisR ?_
  intro p e s m args below meth c s₁ Bd hml0 hP hK
  obtain ⟨rfl, hZ, hh⟩ := hP
  have hx := Bd.exec
  have hby := Bd.bytes
  have hml : c.maxLocals = 1 := hml0
  have hown : s.vm.findClass "com/example/biller/biller/files/PlainValue" = some m.cls := findClass_of_methodNamed Bd.named
  have hnm := (name_of_methodNamed Bd.named Bd.method).1
  have X0 : Stand p l e ({ frames := 1, cells := 0, slots := 0, locals := 12 } : Room) s m #[(.ref a1)] below meth c s₁ [] 0 0 := Stand.of_body Bd
  have e0 : s₁.heap = h0 := by rw [← hh, Bd.state]; rfl
  have N0 := Fr.nil n0
  refine Go.done (Go.step (fun t k => castTop (ef_2 m a1) k) ?_)
  have KK0 : Keep h0 h0 [] := Keep.refl _ _
  show Go p e below _ (s₁.setTop (mkF m 0 _ []))
  refine gA (q := 1) X0 hx (hb hby d2_0) rfl rfl rfl ?_
  obtain ⟨T2, X2, e2, st2⟩ := initO X0 hx hZ hown (hw _ (List.mem_of_getElem? (i := 32) rfl)) (hw _ (List.mem_of_getElem? (i := 33) rfl)) (hw _ (List.mem_of_getElem? (i := 34) rfl)) e0 (g := (mkF m 1 #[.val (.ref a1)] [(.ref a1)])) rfl (by rw [hml]; rfl) rfl (hb hby d2_1) (by decide) (W := 0) (by show 2 * 0 + _ ≤ _; exact Nat.le_of_eq rfl) (by decide)
  refine Go.step st2 ?_
  show Go p e below _ (T2.setTop (mkF m 4 _ []))
  exact retGV X2 hx Bd.notSynchronized Bd.returns (hb hby d2_4) ⟨rfl, N0, e2⟩ (by decide) (by decide)
theorem d4_0 : decode prog_81_method_2_code 0 = .ok (.iload_n 2, 1) := by decide +kernel
theorem d4_1 : decode prog_81_method_2_code 1 = .ok (.iload_n 3, 1) := by decide +kernel
theorem d4_2 : decode prog_81_method_2_code 2 = .ok (.if_icmp .ge 15, 3) := by decide +kernel
theorem d4_5 : decode prog_81_method_2_code 5 = .ok (.aload_n 1, 1) := by decide +kernel
theorem d4_6 : decode prog_81_method_2_code 6 = .ok (.iload_n 2, 1) := by decide +kernel
theorem d4_7 : decode prog_81_method_2_code 7 = .ok (.baload, 1) := by decide +kernel
theorem d4_8 : decode prog_81_method_2_code 8 = .ok (.bipush 45, 2) := by decide +kernel
theorem d4_10 : decode prog_81_method_2_code 10 = .ok (.if_icmp .ne 7, 3) := by decide +kernel
theorem d4_13 : decode prog_81_method_2_code 13 = .ok (.iconst 1, 1) := by decide +kernel
theorem d4_14 : decode prog_81_method_2_code 14 = .ok (.goto 4, 3) := by decide +kernel
theorem d4_17 : decode prog_81_method_2_code 17 = .ok (.iconst 0, 1) := by decide +kernel
theorem d4_18 : decode prog_81_method_2_code 18 = .ok (.istore 4, 2) := by decide +kernel
theorem d4_20 : decode prog_81_method_2_code 20 = .ok (.iload 4, 2) := by decide +kernel
theorem d4_22 : decode prog_81_method_2_code 22 = .ok (.ifCond .eq 9, 3) := by decide +kernel
theorem d4_31 : decode prog_81_method_2_code 31 = .ok (.iload_n 2, 1) := by decide +kernel
theorem d4_25 : decode prog_81_method_2_code 25 = .ok (.iload_n 2, 1) := by decide +kernel
theorem d4_26 : decode prog_81_method_2_code 26 = .ok (.iconst 1, 1) := by decide +kernel
theorem d4_27 : decode prog_81_method_2_code 27 = .ok (.iadd, 1) := by decide +kernel
theorem d4_28 : decode prog_81_method_2_code 28 = .ok (.goto 4, 3) := by decide +kernel
theorem d4_32 : decode prog_81_method_2_code 32 = .ok (.istore 5, 2) := by decide +kernel
theorem d4_34 : decode prog_81_method_2_code 34 = .ok (.lconst 0, 1) := by decide +kernel
theorem d4_35 : decode prog_81_method_2_code 35 = .ok (.lstore 6, 2) := by decide +kernel
theorem d4_37 : decode prog_81_method_2_code 37 = .ok (.iconst (-1), 1) := by decide +kernel
theorem d4_38 : decode prog_81_method_2_code 38 = .ok (.istore 8, 2) := by decide +kernel
theorem d4_40 : decode prog_81_method_2_code 40 = .ok (.iload 5, 2) := by decide +kernel
theorem d4_42 : decode prog_81_method_2_code 42 = .ok (.istore 9, 2) := by decide +kernel
theorem d4_44 : decode prog_81_method_2_code 44 = .ok (.iload 9, 2) := by decide +kernel
theorem d4_46 : decode prog_81_method_2_code 46 = .ok (.iload_n 3, 1) := by decide +kernel
theorem d4_47 : decode prog_81_method_2_code 47 = .ok (.if_icmp .ge 63, 3) := by decide +kernel
theorem d4_50 : decode prog_81_method_2_code 50 = .ok (.aload_n 1, 1) := by decide +kernel
theorem d4_51 : decode prog_81_method_2_code 51 = .ok (.iload 9, 2) := by decide +kernel
theorem d4_53 : decode prog_81_method_2_code 53 = .ok (.baload, 1) := by decide +kernel
theorem d4_54 : decode prog_81_method_2_code 54 = .ok (.bipush 48, 2) := by decide +kernel
theorem d4_56 : decode prog_81_method_2_code 56 = .ok (.isub, 1) := by decide +kernel
theorem d4_57 : decode prog_81_method_2_code 57 = .ok (.istore 10, 2) := by decide +kernel
theorem d4_59 : decode prog_81_method_2_code 59 = .ok (.iload 10, 2) := by decide +kernel
theorem d4_61 : decode prog_81_method_2_code 61 = .ok (.ifCond .lt 25, 3) := by decide +kernel
theorem d4_86 : decode prog_81_method_2_code 86 = .ok (.aload_n 1, 1) := by decide +kernel
theorem d4_87 : decode prog_81_method_2_code 87 = .ok (.iload 9, 2) := by decide +kernel
theorem d4_89 : decode prog_81_method_2_code 89 = .ok (.baload, 1) := by decide +kernel
theorem d4_90 : decode prog_81_method_2_code 90 = .ok (.bipush 46, 2) := by decide +kernel
theorem d4_92 : decode prog_81_method_2_code 92 = .ok (.if_icmp .ne 18, 3) := by decide +kernel
theorem d4_95 : decode prog_81_method_2_code 95 = .ok (.iload 8, 2) := by decide +kernel
theorem d4_97 : decode prog_81_method_2_code 97 = .ok (.ifCond .ge 13, 3) := by decide +kernel
theorem d4_100 : decode prog_81_method_2_code 100 = .ok (.iload 9, 2) := by decide +kernel
theorem d4_102 : decode prog_81_method_2_code 102 = .ok (.istore 8, 2) := by decide +kernel
theorem d4_104 : decode prog_81_method_2_code 104 = .ok (.iinc 9 1, 3) := by decide +kernel
theorem d4_107 : decode prog_81_method_2_code 107 = .ok (.goto (-63), 3) := by decide +kernel
theorem d4_110 : decode prog_81_method_2_code 110 = .ok (.iload 9, 2) := by decide +kernel
theorem d4_112 : decode prog_81_method_2_code 112 = .ok (.iload 5, 2) := by decide +kernel
theorem d4_114 : decode prog_81_method_2_code 114 = .ok (.isub, 1) := by decide +kernel
theorem d4_115 : decode prog_81_method_2_code 115 = .ok (.iload 8, 2) := by decide +kernel
theorem d4_117 : decode prog_81_method_2_code 117 = .ok (.ifCond .ge 7, 3) := by decide +kernel
theorem d4_120 : decode prog_81_method_2_code 120 = .ok (.iconst 0, 1) := by decide +kernel
theorem d4_121 : decode prog_81_method_2_code 121 = .ok (.goto 4, 3) := by decide +kernel
theorem d4_124 : decode prog_81_method_2_code 124 = .ok (.iconst 1, 1) := by decide +kernel
theorem d4_125 : decode prog_81_method_2_code 125 = .ok (.isub, 1) := by decide +kernel
theorem d4_126 : decode prog_81_method_2_code 126 = .ok (.istore 10, 2) := by decide +kernel
theorem d4_128 : decode prog_81_method_2_code 128 = .ok (.iload 10, 2) := by decide +kernel
theorem d4_130 : decode prog_81_method_2_code 130 = .ok (.iconst 1, 1) := by decide +kernel
theorem d4_131 : decode prog_81_method_2_code 131 = .ok (.if_icmp .lt 10, 3) := by decide +kernel
theorem d4_134 : decode prog_81_method_2_code 134 = .ok (.iload 10, 2) := by decide +kernel
theorem d4_136 : decode prog_81_method_2_code 136 = .ok (.bipush 18, 2) := by decide +kernel
theorem d4_138 : decode prog_81_method_2_code 138 = .ok (.if_icmp .le 5, 3) := by decide +kernel
theorem d4_143 : decode prog_81_method_2_code 143 = .ok (.aload_n 0, 1) := by decide +kernel
theorem d4_144 : decode prog_81_method_2_code 144 = .ok (.iload 4, 2) := by decide +kernel
theorem d4_146 : decode prog_81_method_2_code 146 = .ok (.ifCond .eq 9, 3) := by decide +kernel
theorem d4_155 : decode prog_81_method_2_code 155 = .ok (.lload 6, 2) := by decide +kernel
theorem d4_149 : decode prog_81_method_2_code 149 = .ok (.lload 6, 2) := by decide +kernel
theorem d4_151 : decode prog_81_method_2_code 151 = .ok (.lneg, 1) := by decide +kernel
theorem d4_152 : decode prog_81_method_2_code 152 = .ok (.goto 5, 3) := by decide +kernel
theorem d4_157 : decode prog_81_method_2_code 157 = .ok (.putfield 13, 3) := by decide +kernel
theorem d4_160 : decode prog_81_method_2_code 160 = .ok (.aload_n 0, 1) := by decide +kernel
theorem d4_161 : decode prog_81_method_2_code 161 = .ok (.iload 8, 2) := by decide +kernel
theorem d4_163 : decode prog_81_method_2_code 163 = .ok (.ifCond .ge 7, 3) := by decide +kernel
theorem d4_166 : decode prog_81_method_2_code 166 = .ok (.iconst 0, 1) := by decide +kernel
theorem d4_167 : decode prog_81_method_2_code 167 = .ok (.goto 10, 3) := by decide +kernel
theorem d4_170 : decode prog_81_method_2_code 170 = .ok (.iload 9, 2) := by decide +kernel
theorem d4_172 : decode prog_81_method_2_code 172 = .ok (.iload 8, 2) := by decide +kernel
theorem d4_174 : decode prog_81_method_2_code 174 = .ok (.isub, 1) := by decide +kernel
theorem d4_175 : decode prog_81_method_2_code 175 = .ok (.iconst 1, 1) := by decide +kernel
theorem d4_176 : decode prog_81_method_2_code 176 = .ok (.isub, 1) := by decide +kernel
theorem d4_177 : decode prog_81_method_2_code 177 = .ok (.putfield 17, 3) := by decide +kernel
theorem d4_180 : decode prog_81_method_2_code 180 = .ok (.iload 9, 2) := by decide +kernel
theorem d4_182 : decode prog_81_method_2_code 182 = .ok (.ireturn, 1) := by decide +kernel
theorem d4_64 : decode prog_81_method_2_code 64 = .ok (.iload 10, 2) := by decide +kernel
theorem d4_66 : decode prog_81_method_2_code 66 = .ok (.bipush 9, 2) := by decide +kernel
theorem d4_68 : decode prog_81_method_2_code 68 = .ok (.if_icmp .gt 18, 3) := by decide +kernel
theorem d4_71 : decode prog_81_method_2_code 71 = .ok (.lload 6, 2) := by decide +kernel
theorem d4_73 : decode prog_81_method_2_code 73 = .ok (.ldc2_w 9, 3) := by decide +kernel
theorem d4_76 : decode prog_81_method_2_code 76 = .ok (.lmul, 1) := by decide +kernel
theorem d4_77 : decode prog_81_method_2_code 77 = .ok (.iload 10, 2) := by decide +kernel
theorem d4_79 : decode prog_81_method_2_code 79 = .ok (.i2l, 1) := by decide +kernel
theorem d4_80 : decode prog_81_method_2_code 80 = .ok (.ladd, 1) := by decide +kernel
theorem d4_81 : decode prog_81_method_2_code 81 = .ok (.lstore 6, 2) := by decide +kernel
theorem d4_83 : decode prog_81_method_2_code 83 = .ok (.goto 21, 3) := by decide +kernel
theorem ef_4_ok (m : MethodId) (a1 : Addr) (a2 : Addr) (p3 : Int32) (p4 : Int32) : entryFrame m #[(.ref a1), (.ref a2), (.int p3), (.int p4)] 11 = mkF m 0 #[.val (.ref a1), .val (.ref a2), .val (.int p3), .val (.int p4), .unset, .unset, .unset, .unset, .unset, .unset, .unset] [] := by first | (simp [entryFrame, mkF, argsToLocals, Value.category]; done) | rfl
def Q4_ok (Z : State) (a1 : Addr) (a2 : Addr) (p3 : Int32) (p4 : Int32) (n_t : Nat) (g_t : Nat → Int32) (ff0 : Nat) (ei : Int32) (ev : Int64) (ep : Int32) (uv : Int64) (sv : Int32) (u_scale_a1 : Value) (u_unscaled_a1 : Value) (u_unscaled_a1 : Value) (u_unscaled_a1 : Value) (u_unscaled_a1 : Value) (u_unscaled_a1 : Value) (h0 : Heap) (n0 : Nat) (v : Option Value) (h : Heap) (L : List Loc) : Prop := v = some (.int ei) ∧ Fr n0 L ∧ Keep h0 h [a1] ∧ Fld Z h a1 "com/example/biller/biller/files/PlainValue" "scale" "I" (.int sv) ∧ Exa Z h a1 "com/example/biller/biller/files/PlainValue" ∧ Fld Z h a1 "com/example/biller/biller/files/PlainValue" "unscaled" "J" (.long uv)
set_option maxRecDepth 65536 in
set_option maxHeartbeats 40000000 in
theorem rm4_ok (l : Launch) (Z : State) (a0 : Array Value) (hw : ∀ d ∈ tables_1, d.before a0 Z = true) (ws : List Jvm.Cond) (a1 : Addr) (a2 : Addr) (p3 : Int32) (p4 : Int32) (n_t : Nat) (g_t : Nat → Int32) (ff0 : Nat) (ei : Int32) (ev : Int64) (ep : Int32) (uv : Int64) (sv : Int32) (u_scale_a1 : Value) (u_unscaled_a1 : Value) (u_unscaled_a1 : Value) (u_unscaled_a1 : Value) (u_unscaled_a1 : Value) (u_unscaled_a1 : Value) (h0 : Heap) (n0 : Nat) (Z0 : n0 ≤ h0.size) (hlen : p4.toInt ≤ n_t) (h3 : 0 ≤ p3.toInt) (hR0 : rd g_t p4 ff0 (rdS g_t p3 p4) (0 : Int64) (-1 : Int32) = (ei, ev, ep)) (hf0 : p4.toInt ≤ ff0) (hd1 : ¬ (dgs g_t p3 p4 ei ep) < (1 : Int32)) (hd2 : ¬ (18 : Int32) < (dgs g_t p3 p4 ei ep)) (huv : (if (rdN g_t p3 p4) = (0 : Int32) then ev else (-ev)) = uv) (hsv : (if ep < (0 : Int32) then (0 : Int32) else ((ei - ep) - (1 : Int32))) = sv) (A_a2 : Ary Z h0 a2 .byte n_t (fun i => .int (g_t i))) (F_scale_a1 : Fld Z h0 a1 "com/example/biller/biller/files/PlainValue" "scale" "I" u_scale_a1) (E_a1 : Exa Z h0 a1 "com/example/biller/biller/files/PlainValue") (F_unscaled_a1 : Fld Z h0 a1 "com/example/biller/biller/files/PlainValue" "unscaled" "J" u_unscaled_a1) (g_a1 : n0 ≤ a1) (hne_a2_a1 : a2 ≠ a1) :
    MetFree l (⟨"com/example/biller/biller/files/PlainValue", "read", "([BII)I"⟩ : MethodName) (head1 (Jvm.Cond.code (⟨"com/example/biller/biller/files/PlainValue", "read", "([BII)I"⟩ : MethodName) prog_81_method_2_code 11 (some .int) :: ws) ({ frames := 0, cells := 0, slots := 0, locals := 0 } : Room)) (fun a U => a = #[(.ref a1), (.ref a2), (.int p3), (.int p4)] ∧ Z.Warmed39 U.vm ∧ U.heap = h0) (fun _ _ _ _ _ => True) (fun _ U o U' => ∃ v L, o = .returned v ∧ Q4_ok Z a1 a2 p3 p4 n_t g_t ff0 ei ev ep uv sv u_scale_a1 u_unscaled_a1 u_unscaled_a1 u_unscaled_a1 u_unscaled_a1 u_unscaled_a1 h0 n0 v U'.heap L ∧ FrameEnd U o U' L ({ frames := 0, cells := 0, slots := 0, locals := 0 } : Room).cells ({ frames := 0, cells := 0, slots := 0, locals := 0 } : Room).slots) := by
  refine MetFree.of_bodySF (plainFor_of_name pn_1) hisR ?_
  intro p e s m args below meth c s₁ Bd hml0 hP hK
  obtain ⟨rfl, hZ, hh⟩ := hP
  have hx := Bd.exec
  have hby := Bd.bytes
  have hml : c.maxLocals = 11 := hml0
  have hown : s.vm.findClass "com/example/biller/biller/files/PlainValue" = some m.cls := findClass_of_methodNamed Bd.named
  have hnm := (name_of_methodNamed Bd.named Bd.method).1
  have X0 : Stand p l e ({ frames := 0, cells := 0, slots := 0, locals := 0 } : Room) s m #[(.ref a1), (.ref a2), (.int p3), (.int p4)] below meth c s₁ [] 0 0 := Stand.of_body Bd
  have e0 : s₁.heap = h0 := by rw [← hh, Bd.state]; rfl
  have N0 := Fr.nil n0
  refine Go.done (Go.step (fun t k => castTop (ef_4_ok m a1 a2 p3 p4) k) ?_)
  have KK0 : Keep h0 h0 [a1] := Keep.refl _ _
  show Go p e below _ (s₁.setTop (mkF m 0 _ []))
  refine gI (q := 1) X0 hx (hb hby d4_0) rfl rfl ?_
  refine gI (q := 2) X0 hx (hb hby d4_1) rfl rfl ?_
  obtain ⟨v7, hv7⟩ : ∃ z : Int32, z = (if p3 < p4 then (if (g_t p3.toNatClampNeg) = (45 : Int32) then (1 : Int32) else (0 : Int32)) else (0 : Int32)) := ⟨_, rfl⟩
  have J2 : Go p e below (AtF p l e ({ frames := 0, cells := 0, slots := 0, locals := 0 } : Room) s m #[(.ref a1), (.ref a2), (.int p3), (.int p4)] below meth c n0 0 0 h0 (mkF m 18 #[.val (.ref a1), .val (.ref a2), .val (.int p3), .val (.int p4), .unset, .unset, .unset, .unset, .unset, .unset, .unset] [(.int v7)])) (s₁.setTop (mkF m 2 #[.val (.ref a1), .val (.ref a2), .val (.int p3), .val (.int p4), .unset, .unset, .unset, .unset, .unset, .unset, .unset] [(.int p4), (.int p3)])) := by
   by_cases hc5 : p3 < p4
   · refine Go.step (fun t k => XS.icmpNo X0.here hx rfl (hb hby d4_2) rfl (tlt hc5).2.1 k) ?_
     show Go p e below _ (s₁.setTop (mkF m 5 _ []))
     refine gA (q := 6) X0 hx (hb hby d4_5) rfl rfl rfl ?_
     refine gI (q := 7) X0 hx (hb hby d4_6) rfl rfl ?_
     refine Go.step (ldB X0 hx hZ e0 A_a2 (j := p3) ((nn_iff p3).mpr h3) (own_lt h3 hc5 hlen) (g := (mkF m 7 _ [(.int p3), (.ref a2)])) rfl rfl (hb hby d4_7)) ?_
     show Go p e below _ (s₁.setTop (mkF m 8 _ [(.int (g_t p3.toNatClampNeg))]))
     refine Go.step (fun t k => XS.bipush X0.here hx rfl (hb hby d4_8)  k) ?_
     show Go p e below _ (s₁.setTop (mkF m 10 _ [(.int (45 : Int32)), (.int (g_t p3.toNatClampNeg))]))
     by_cases hc6 : (g_t p3.toNatClampNeg) = (45 : Int32)
     · refine Go.step (fun t k => XS.icmpNo X0.here hx rfl (hb hby d4_10) rfl (teq hc6).2 k) ?_
       show Go p e below _ (s₁.setTop (mkF m 13 _ []))
       refine gC (q := 14) (v := 1) X0 hx (hb hby d4_13) rfl rfl ?_
       refine Go.step (fun t k => XS.goto X0.here hx rfl (pc0 := 14) (pc' := 18) rfl (hb hby d4_14) (by decide) (by decide) k) ?_
       show Go p e below _ (s₁.setTop (mkF m 18 _ [(.int (1 : Int32))]))
       exact Go.here ⟨_, _, by simp only [hv7, if_pos hc5, if_pos hc6], X0, N0, e0⟩
     · refine Go.step (fun t k => XS.icmpYes X0.here hx rfl (pc0 := 10) (pc' := 17) rfl (hb hby d4_10) rfl (feq hc6).2 (by decide) (by decide) k) ?_
       show Go p e below _ (s₁.setTop (mkF m 17 _ []))
       refine gC (q := 18) (v := 0) X0 hx (hb hby d4_17) rfl rfl ?_
       show Go p e below _ (s₁.setTop (mkF m 18 _ [(.int (0 : Int32))]))
       exact Go.here ⟨_, _, by simp only [hv7, if_pos hc5, if_neg hc6], X0, N0, e0⟩
   · refine Go.step (fun t k => XS.icmpYes X0.here hx rfl (pc0 := 2) (pc' := 17) rfl (hb hby d4_2) rfl (flt hc5).2.1 (by decide) (by decide) k) ?_
     show Go p e below _ (s₁.setTop (mkF m 17 _ []))
     refine gC (q := 18) (v := 0) X0 hx (hb hby d4_17) rfl rfl ?_
     show Go p e below _ (s₁.setTop (mkF m 18 _ [(.int (0 : Int32))]))
     exact Go.here ⟨_, _, by simp only [hv7, if_neg hc5], X0, N0, e0⟩
  obtain ⟨_, st8, T8, Lj8, rfl, X8, N8, e8⟩ := J2
  refine Go.trans st8 ?_
  show Go p e below _ (T8.setTop (mkF m 18 _ [(.int v7)]))
  refine Go.step (fun t k => XS.istore X8.here hx rfl (hb hby d4_18) rfl (l' := #[.val (.ref a1), .val (.ref a2), .val (.int p3), .val (.int p4), .val (.int v7), .unset, .unset, .unset, .unset, .unset, .unset]) rfl k) ?_
  show Go p e below _ (T8.setTop (mkF m 20 _ []))
  refine gJ (q := 22) X8 hx (hb hby d4_20) rfl rfl ?_
  obtain ⟨v10, hv10⟩ : ∃ z : Int32, z = (if v7 = (0 : Int32) then p3 else (p3 + (1 : Int32))) := ⟨_, rfl⟩
  have J22 : Go p e below (AtF p l e ({ frames := 0, cells := 0, slots := 0, locals := 0 } : Room) s m #[(.ref a1), (.ref a2), (.int p3), (.int p4)] below meth c n0 0 0 h0 (mkF m 32 #[.val (.ref a1), .val (.ref a2), .val (.int p3), .val (.int p4), .val (.int v7), .unset, .unset, .unset, .unset, .unset, .unset] [(.int v10)])) (T8.setTop (mkF m 22 #[.val (.ref a1), .val (.ref a2), .val (.int p3), .val (.int p4), .val (.int v7), .unset, .unset, .unset, .unset, .unset, .unset] [(.int v7)])) := by
   by_cases hc9 : v7 = (0 : Int32)
   · refine Go.step (fun t k => XS.ifYes X8.here hx rfl (pc0 := 22) (pc' := 31) rfl (hb hby d4_22) rfl ((if0 _ _).trans (teq hc9).1) (by decide) (by decide) k) ?_
     show Go p e below _ (T8.setTop (mkF m 31 _ []))
     refine gI (q := 32) X8 hx (hb hby d4_31) rfl rfl ?_
     show Go p e below _ (T8.setTop (mkF m 32 _ [(.int p3)]))
     exact Go.here ⟨_, _, by simp only [hv10, if_pos hc9], X8, N8, e8⟩
   · refine Go.step (fun t k => XS.ifNo X8.here hx rfl (hb hby d4_22) rfl ((if0 _ _).trans (feq hc9).1) k) ?_
     show Go p e below _ (T8.setTop (mkF m 25 _ []))
     refine gI (q := 26) X8 hx (hb hby d4_25) rfl rfl ?_
     refine gC (q := 27) (v := 1) X8 hx (hb hby d4_26) rfl rfl ?_
     refine Go.step (fun t k => XS.iadd X8.here hx rfl (hb hby d4_27) rfl k) ?_
     show Go p e below _ (T8.setTop (mkF m 28 _ [(.int (p3 + (1 : Int32)))]))
     refine Go.step (fun t k => XS.goto X8.here hx rfl (pc0 := 28) (pc' := 32) rfl (hb hby d4_28) (by decide) (by decide) k) ?_
     show Go p e below _ (T8.setTop (mkF m 32 _ [(.int (p3 + (1 : Int32)))]))
     exact Go.here ⟨_, _, by simp only [hv10, if_neg hc9], X8, N8, e8⟩
  obtain ⟨_, st11, T11, Lj11, rfl, X11, N11, e11⟩ := J22
  refine Go.trans st11 ?_
  show Go p e below _ (T11.setTop (mkF m 32 _ [(.int v10)]))
  refine Go.step (fun t k => XS.istore X11.here hx rfl (hb hby d4_32) rfl (l' := #[.val (.ref a1), .val (.ref a2), .val (.int p3), .val (.int p4), .val (.int v7), .val (.int v10), .unset, .unset, .unset, .unset, .unset]) rfl k) ?_
  show Go p e below _ (T11.setTop (mkF m 34 _ []))
  refine Go.step (fun t k => XS.lconst X11.here hx rfl (hb hby d4_34)  k) ?_
  show Go p e below _ (T11.setTop (mkF m 35 _ [(.long (0 : Int64))]))
  refine Go.step (fun t k => XS.lstore X11.here hx rfl (hb hby d4_35) rfl (l' := #[.val (.ref a1), .val (.ref a2), .val (.int p3), .val (.int p4), .val (.int v7), .val (.int v10), .val (.long (0 : Int64)), .second, .unset, .unset, .unset]) rfl k) ?_
  show Go p e below _ (T11.setTop (mkF m 37 _ []))
  refine gC (q := 38) (v := -1) X11 hx (hb hby d4_37) rfl rfl ?_
  refine Go.step (fun t k => XS.istore X11.here hx rfl (hb hby d4_38) rfl (l' := #[.val (.ref a1), .val (.ref a2), .val (.int p3), .val (.int p4), .val (.int v7), .val (.int v10), .val (.long (0 : Int64)), .second, .val (.int (-1 : Int32)), .unset, .unset]) rfl k) ?_
  show Go p e below _ (T11.setTop (mkF m 40 _ []))
  refine gJ (q := 42) X11 hx (hb hby d4_40) rfl rfl ?_
  refine Go.step (fun t k => XS.istore X11.here hx rfl (hb hby d4_42) rfl (l' := #[.val (.ref a1), .val (.ref a2), .val (.int p3), .val (.int p4), .val (.int v7), .val (.int v10), .val (.long (0 : Int64)), .second, .val (.int (-1 : Int32)), .val (.int v10), .unset]) rfl k) ?_
  show Go p e below _ (T11.setTop (mkF m 44 _ []))
  have LOOP44 : ∀ (mm : Nat) (ff : Nat) (ix : Int32) (vl : Int64) (pt : Int32) (sl10 : Slot) (hsl10 : One sl10) (Tl12 : State) (Ll12 : List Loc) (hmm : ff = mm) (hR : rd g_t p4 ff ix vl pt = (ei, ev, ep)) (hi : 0 ≤ ix.toInt) (hff : p4.toInt - ix.toInt ≤ ff) (Xl12 : Stand p l e ({ frames := 0, cells := 0, slots := 0, locals := 0 } : Room) s m #[(.ref a1), (.ref a2), (.int p3), (.int p4)] below meth c Tl12 Ll12 0 0) (Nl12 : Fr n0 Ll12) (el12 : Tl12.heap = h0), Go p e below (FinQ below s (Q4_ok Z a1 a2 p3 p4 n_t g_t ff0 ei ev ep uv sv u_scale_a1 u_unscaled_a1 u_unscaled_a1 u_unscaled_a1 u_unscaled_a1 u_unscaled_a1 h0 n0) ({ frames := 0, cells := 0, slots := 0, locals := 0 } : Room).cells ({ frames := 0, cells := 0, slots := 0, locals := 0 } : Room).slots) (Tl12.setTop (mkF m 44 #[.val (.ref a1), .val (.ref a2), .val (.int p3), .val (.int p4), .val (.int v7), .val (.int v10), .val (.long vl), .second, .val (.int pt), .val (.int ix), sl10] [])) := by
    intro mm
    induction mm using Nat.strongRecOn with
    | _ mm ih =>
      intro ff ix vl pt sl10 hsl10 Tl12 Ll12 hmm hR hi hff Xl12 Nl12 el12
      show Go p e below _ (Tl12.setTop (mkF m 44 _ []))
      refine gJ (q := 46) Xl12 hx (hb hby d4_44) rfl rfl ?_
      refine gI (q := 47) Xl12 hx (hb hby d4_46) rfl rfl ?_
      by_cases hc13 : ix < p4
      · refine Go.step (fun t k => XS.icmpNo Xl12.here hx rfl (hb hby d4_47) rfl (tlt hc13).2.1 k) ?_
        show Go p e below _ (Tl12.setTop (mkF m 50 _ []))
        obtain ⟨fu, rfl⟩ : ∃ z, ff = z + 1 := ⟨ff - 1, by have := Int32.lt_iff_toInt_lt.mp hc13; omega⟩
        show Go p e below _ (Tl12.setTop (mkF m 50 _ []))
        refine gA (q := 51) Xl12 hx (hb hby d4_50) rfl rfl rfl ?_
        refine gJ (q := 53) Xl12 hx (hb hby d4_51) rfl rfl ?_
        refine Go.step (ldB Xl12 hx hZ el12 A_a2 (j := ix) ((nn_iff ix).mpr hi) (own_lt hi hc13 hlen) (g := (mkF m 53 _ [(.int ix), (.ref a2)])) rfl rfl (hb hby d4_53)) ?_
        show Go p e below _ (Tl12.setTop (mkF m 54 _ [(.int (g_t ix.toNatClampNeg))]))
        refine Go.step (fun t k => XS.bipush Xl12.here hx rfl (hb hby d4_54)  k) ?_
        show Go p e below _ (Tl12.setTop (mkF m 56 _ [(.int (48 : Int32)), (.int (g_t ix.toNatClampNeg))]))
        refine Go.step (fun t k => XS.isub Xl12.here hx rfl (hb hby d4_56) rfl k) ?_
        show Go p e below _ (Tl12.setTop (mkF m 57 _ [(.int ((g_t ix.toNatClampNeg) - (48 : Int32)))]))
        refine nameIt (fun zz : Int32 => Go p e below _ (Tl12.setTop (mkF m 57 #[.val (.ref a1), .val (.ref a2), .val (.int p3), .val (.int p4), .val (.int v7), .val (.int v10), .val (.long vl), .second, .val (.int pt), .val (.int ix), sl10] [(.int zz)]))) ((g_t ix.toNatClampNeg) - (48 : Int32)) ?_
        intro v14 hv14
        show Go p e below _ (Tl12.setTop (mkF m 57 _ [(.int v14)]))
        refine Go.step (fun t k => XS.istore Xl12.here hx rfl (hb hby d4_57) rfl (l' := #[.val (.ref a1), .val (.ref a2), .val (.int p3), .val (.int p4), .val (.int v7), .val (.int v10), .val (.long vl), .second, .val (.int pt), .val (.int ix), .val (.int v14)]) (by rcases hsl10 with rfl | ⟨w, rfl, hw⟩ <;> first | rfl | (cases w <;> first | rfl | (simp [Value.category] at hw))) k) ?_
        show Go p e below _ (Tl12.setTop (mkF m 59 _ []))
        refine gJ (q := 61) Xl12 hx (hb hby d4_59) rfl rfl ?_
        by_cases hc15 : v14 < (0 : Int32)
        · refine Go.step (fun t k => XS.ifYes Xl12.here hx rfl (pc0 := 61) (pc' := 86) rfl (hb hby d4_61) rfl ((if0 _ _).trans (tlt hc15).1) (by decide) (by decide) k) ?_
          show Go p e below _ (Tl12.setTop (mkF m 86 _ []))
          refine gA (q := 87) Xl12 hx (hb hby d4_86) rfl rfl rfl ?_
          refine gJ (q := 89) Xl12 hx (hb hby d4_87) rfl rfl ?_
          refine Go.step (ldB Xl12 hx hZ el12 A_a2 (j := ix) ((nn_iff ix).mpr hi) (own_lt hi hc13 hlen) (g := (mkF m 89 _ [(.int ix), (.ref a2)])) rfl rfl (hb hby d4_89)) ?_
          show Go p e below _ (Tl12.setTop (mkF m 90 _ [(.int (g_t ix.toNatClampNeg))]))
          refine Go.step (fun t k => XS.bipush Xl12.here hx rfl (hb hby d4_90)  k) ?_
          show Go p e below _ (Tl12.setTop (mkF m 92 _ [(.int (46 : Int32)), (.int (g_t ix.toNatClampNeg))]))
          by_cases hc16 : (g_t ix.toNatClampNeg) = (46 : Int32)
          · refine Go.step (fun t k => XS.icmpNo Xl12.here hx rfl (hb hby d4_92) rfl (teq hc16).2 k) ?_
            show Go p e below _ (Tl12.setTop (mkF m 95 _ []))
            refine gJ (q := 97) Xl12 hx (hb hby d4_95) rfl rfl ?_
            by_cases hc17 : pt < (0 : Int32)
            · refine Go.step (fun t k => XS.ifNo Xl12.here hx rfl (hb hby d4_97) rfl ((if0 _ _).trans (tlt hc17).2.1) k) ?_
              show Go p e below _ (Tl12.setTop (mkF m 100 _ []))
              refine gJ (q := 102) Xl12 hx (hb hby d4_100) rfl rfl ?_
              refine Go.step (fun t k => XS.istore Xl12.here hx rfl (hb hby d4_102) rfl (l' := #[.val (.ref a1), .val (.ref a2), .val (.int p3), .val (.int p4), .val (.int v7), .val (.int v10), .val (.long vl), .second, .val (.int ix), .val (.int ix), .val (.int v14)]) rfl k) ?_
              show Go p e below _ (Tl12.setTop (mkF m 104 _ []))
              refine Go.step (fun t k => XS.iinc Xl12.here hx rfl (hb hby d4_104) rfl (l' := #[.val (.ref a1), .val (.ref a2), .val (.int p3), .val (.int p4), .val (.int v7), .val (.int v10), .val (.long vl), .second, .val (.int ix), .val (.int (ix + (1 : Int32))), .val (.int v14)]) rfl k) ?_
              show Go p e below _ (Tl12.setTop (mkF m 107 _ []))
              refine Go.step (fun t k => XS.goto Xl12.here hx rfl (pc0 := 107) (pc' := 44) rfl (hb hby d4_107) (by decide) (by decide) k) ?_
              show Go p e below _ (Tl12.setTop (mkF m 44 _ []))
              show Go p e below _ (Tl12.setTop (mkF m 44 _ []))
              exact ih _ (by omega) fu (ix + (1 : Int32)) vl ix _ (One.val rfl) _ _ rfl (by have q := hR; rw [rd_dot fu hc13 hc16 hc17] at q; exact q) (by rw [own_i1 hc13]; omega) (by rw [own_i1 hc13]; omega) Xl12 Nl12 el12
            · refine Go.step (fun t k => XS.ifYes Xl12.here hx rfl (pc0 := 97) (pc' := 110) rfl (hb hby d4_97) rfl ((if0 _ _).trans (flt hc17).2.1) (by decide) (by decide) k) ?_
              show Go p e below _ (Tl12.setTop (mkF m 110 _ []))
              have hE := hR
              rw [rd_no _ (Or.inl (by rw [← hv14]; exact hc15)) (Or.inr hc17)] at hE
              have hE1 : ei = ix := (congrArg (fun z => z.1) hE).symm
              have hE2 : ev = vl := (congrArg (fun z => z.2.1) hE).symm
              have hE3 : ep = pt := (congrArg (fun z => z.2.2) hE).symm
              subst hE1 hE2 hE3
              show Go p e below _ (Tl12.setTop (mkF m 110 _ []))
              refine gJ (q := 112) Xl12 hx (hb hby d4_110) rfl rfl ?_
              refine gJ (q := 114) Xl12 hx (hb hby d4_112) rfl rfl ?_
              refine Go.step (fun t k => XS.isub Xl12.here hx rfl (hb hby d4_114) rfl k) ?_
              show Go p e below _ (Tl12.setTop (mkF m 115 _ [(.int (ei - v10))]))
              refine gJ (q := 117) Xl12 hx (hb hby d4_115) rfl rfl ?_
              obtain ⟨v19, hv19⟩ : ∃ z : Int32, z = (if ep < (0 : Int32) then (0 : Int32) else (1 : Int32)) := ⟨_, rfl⟩
              have J117 : Go p e below (AtF p l e ({ frames := 0, cells := 0, slots := 0, locals := 0 } : Room) s m #[(.ref a1), (.ref a2), (.int p3), (.int p4)] below meth c n0 0 0 h0 (mkF m 125 #[.val (.ref a1), .val (.ref a2), .val (.int p3), .val (.int p4), .val (.int v7), .val (.int v10), .val (.long ev), .second, .val (.int ep), .val (.int ei), .val (.int v14)] [(.int v19), (.int (ei - v10))])) (Tl12.setTop (mkF m 117 #[.val (.ref a1), .val (.ref a2), .val (.int p3), .val (.int p4), .val (.int v7), .val (.int v10), .val (.long ev), .second, .val (.int ep), .val (.int ei), .val (.int v14)] [(.int ep), (.int (ei - v10))])) := by
               by_cases hc18 : ep < (0 : Int32)
               · refine Go.step (fun t k => XS.ifNo Xl12.here hx rfl (hb hby d4_117) rfl ((if0 _ _).trans (tlt hc18).2.1) k) ?_
                 show Go p e below _ (Tl12.setTop (mkF m 120 _ [(.int (ei - v10))]))
                 refine gC (q := 121) (v := 0) Xl12 hx (hb hby d4_120) rfl rfl ?_
                 refine Go.step (fun t k => XS.goto Xl12.here hx rfl (pc0 := 121) (pc' := 125) rfl (hb hby d4_121) (by decide) (by decide) k) ?_
                 show Go p e below _ (Tl12.setTop (mkF m 125 _ [(.int (0 : Int32)), (.int (ei - v10))]))
                 exact Go.here ⟨_, _, by simp only [hv19, if_pos hc18], Xl12, Nl12, el12⟩
               · refine Go.step (fun t k => XS.ifYes Xl12.here hx rfl (pc0 := 117) (pc' := 124) rfl (hb hby d4_117) rfl ((if0 _ _).trans (flt hc18).2.1) (by decide) (by decide) k) ?_
                 show Go p e below _ (Tl12.setTop (mkF m 124 _ [(.int (ei - v10))]))
                 refine gC (q := 125) (v := 1) Xl12 hx (hb hby d4_124) rfl rfl ?_
                 show Go p e below _ (Tl12.setTop (mkF m 125 _ [(.int (1 : Int32)), (.int (ei - v10))]))
                 exact Go.here ⟨_, _, by simp only [hv19, if_neg hc18], Xl12, Nl12, el12⟩
              obtain ⟨_, st20, T20, Lj20, rfl, X20, N20, e20⟩ := J117
              refine Go.trans st20 ?_
              show Go p e below _ (T20.setTop (mkF m 125 _ [(.int v19), (.int (ei - v10))]))
              refine Go.step (fun t k => XS.isub X20.here hx rfl (hb hby d4_125) rfl k) ?_
              show Go p e below _ (T20.setTop (mkF m 126 _ [(.int ((ei - v10) - v19))]))
              refine nameIt (fun zz : Int32 => Go p e below _ (T20.setTop (mkF m 126 #[.val (.ref a1), .val (.ref a2), .val (.int p3), .val (.int p4), .val (.int v7), .val (.int v10), .val (.long ev), .second, .val (.int ep), .val (.int ei), .val (.int v14)] [(.int zz)]))) ((ei - v10) - v19) ?_
              intro v21 hv21
              show Go p e below _ (T20.setTop (mkF m 126 _ [(.int v21)]))
              refine Go.step (fun t k => XS.istore X20.here hx rfl (hb hby d4_126) rfl (l' := #[.val (.ref a1), .val (.ref a2), .val (.int p3), .val (.int p4), .val (.int v7), .val (.int v10), .val (.long ev), .second, .val (.int ep), .val (.int ei), .val (.int v21)]) rfl k) ?_
              show Go p e below _ (T20.setTop (mkF m 128 _ []))
              refine gJ (q := 130) X20 hx (hb hby d4_128) rfl rfl ?_
              refine gC (q := 131) (v := 1) X20 hx (hb hby d4_130) rfl rfl ?_
              refine Go.step (fun t k => XS.icmpNo X20.here hx rfl (hb hby d4_131) rfl (flt (by subst_vars; exact hd1 : ¬ (v21 < (1 : Int32)))).1 k) ?_
              show Go p e below _ (T20.setTop (mkF m 134 _ []))
              refine gJ (q := 136) X20 hx (hb hby d4_134) rfl rfl ?_
              refine Go.step (fun t k => XS.bipush X20.here hx rfl (hb hby d4_136)  k) ?_
              show Go p e below _ (T20.setTop (mkF m 138 _ [(.int (18 : Int32)), (.int v21)]))
              refine Go.step (fun t k => XS.icmpYes X20.here hx rfl (pc0 := 138) (pc' := 143) rfl (hb hby d4_138) rfl (flt (by subst_vars; exact hd2 : ¬ ((18 : Int32) < v21))).2.2.2 (by decide) (by decide) k) ?_
              show Go p e below _ (T20.setTop (mkF m 143 _ []))
              refine gA (q := 144) X20 hx (hb hby d4_143) rfl rfl rfl ?_
              refine gJ (q := 146) X20 hx (hb hby d4_144) rfl rfl ?_
              obtain ⟨v23, hv23⟩ : ∃ z : Int64, z = (if v7 = (0 : Int32) then ev else (-ev)) := ⟨_, rfl⟩
              have J146 : Go p e below (AtF p l e ({ frames := 0, cells := 0, slots := 0, locals := 0 } : Room) s m #[(.ref a1), (.ref a2), (.int p3), (.int p4)] below meth c n0 0 0 h0 (mkF m 157 #[.val (.ref a1), .val (.ref a2), .val (.int p3), .val (.int p4), .val (.int v7), .val (.int v10), .val (.long ev), .second, .val (.int ep), .val (.int ei), .val (.int v21)] [(.long v23), (.ref a1)])) (T20.setTop (mkF m 146 #[.val (.ref a1), .val (.ref a2), .val (.int p3), .val (.int p4), .val (.int v7), .val (.int v10), .val (.long ev), .second, .val (.int ep), .val (.int ei), .val (.int v21)] [(.int v7), (.ref a1)])) := by
               by_cases hc22 : v7 = (0 : Int32)
               · refine Go.step (fun t k => XS.ifYes X20.here hx rfl (pc0 := 146) (pc' := 155) rfl (hb hby d4_146) rfl ((if0 _ _).trans (teq hc22).1) (by decide) (by decide) k) ?_
                 show Go p e below _ (T20.setTop (mkF m 155 _ [(.ref a1)]))
                 refine Go.step (fun t k => XS.lload X20.here hx rfl (hb hby d4_155) rfl k) ?_
                 show Go p e below _ (T20.setTop (mkF m 157 _ [(.long ev), (.ref a1)]))
                 exact Go.here ⟨_, _, by simp only [hv23, if_pos hc22], X20, N20, e20⟩
               · refine Go.step (fun t k => XS.ifNo X20.here hx rfl (hb hby d4_146) rfl ((if0 _ _).trans (feq hc22).1) k) ?_
                 show Go p e below _ (T20.setTop (mkF m 149 _ [(.ref a1)]))
                 refine Go.step (fun t k => XS.lload X20.here hx rfl (hb hby d4_149) rfl k) ?_
                 show Go p e below _ (T20.setTop (mkF m 151 _ [(.long ev), (.ref a1)]))
                 refine Go.step (fun t k => XS.lneg X20.here hx rfl (hb hby d4_151) rfl k) ?_
                 show Go p e below _ (T20.setTop (mkF m 152 _ [(.long (-ev)), (.ref a1)]))
                 refine Go.step (fun t k => XS.goto X20.here hx rfl (pc0 := 152) (pc' := 157) rfl (hb hby d4_152) (by decide) (by decide) k) ?_
                 show Go p e below _ (T20.setTop (mkF m 157 _ [(.long (-ev)), (.ref a1)]))
                 exact Go.here ⟨_, _, by simp only [hv23, if_neg hc22], X20, N20, e20⟩
              obtain ⟨_, st24, T24, Lj24, rfl, X24, N24, e24⟩ := J146
              refine Go.trans st24 ?_
              show Go p e below _ (T24.setTop (mkF m 157 _ [(.long v23), (.ref a1)]))
              obtain rfl : uv = v23 := by subst hv23; subst hv21; subst hv19; subst hv14; subst hv10; subst hv7; exact huv.symm
              clear hv23
              show Go p e below _ (T24.setTop (mkF m 157 #[.val (.ref a1), .val (.ref a2), .val (.int p3), .val (.int p4), .val (.int v7), .val (.int v10), .val (.long ev), .second, .val (.int ep), .val (.int ei), .val (.int v21)] [(.long uv), (.ref a1)]))
              obtain ⟨T25, h25, X25, e25, W25, st25⟩ := putF X24 hx hZ hown (host := "") (Or.inl (hw _ (List.mem_of_getElem? (i := 41) rfl))) Via.refl e24 F_unscaled_a1 E_a1 (Or.inl (hw _ (List.mem_of_getElem? (i := 42) rfl))) (hw _ (List.mem_of_getElem? (i := 27) rfl)) (ty := .long) (by decide) rfl rfl (g := (mkF m 157 #[.val (.ref a1), .val (.ref a2), .val (.int p3), .val (.int p4), .val (.int v7), .val (.int v10), .val (.long ev), .second, .val (.int ep), .val (.int ei), .val (.int v21)] [(.long uv), (.ref a1)])) rfl rfl (hb hby d4_157)
              refine Go.step st25 ?_
              have N25 := Fr.snoc X25 N24 g_a1
              have A_a2_25 := A_a2.other W25 hne_a2_a1
              have F_scale_a1_25 := F_scale_a1.other W25 (Or.inr (slot_ne (Or.inl (hw _ (List.mem_of_getElem? (i := 44) rfl))) (Or.inl (hw _ (List.mem_of_getElem? (i := 42) rfl))) (by decide) (t := .int) (t' := .long) (by decide) (by decide)))
              have E_a1_25 := E_a1.wr W25
              have Z25 := Nat.le_trans Z0 (Keep.of_wr W25).1
              have KK25 : Keep h0 h25 [a1] := KK0.wr W25 (Or.inl (by simp))
              have F_unscaled_a1_25 := F_unscaled_a1.same W25
              show Go p e below _ (T25.setTop (mkF m 160 _ []))
              refine gA (q := 161) X25 hx (hb hby d4_160) rfl rfl rfl ?_
              refine gJ (q := 163) X25 hx (hb hby d4_161) rfl rfl ?_
              obtain ⟨v27, hv27⟩ : ∃ z : Int32, z = (if ep < (0 : Int32) then (0 : Int32) else ((ei - ep) - (1 : Int32))) := ⟨_, rfl⟩
              have J163 : Go p e below (AtF p l e ({ frames := 0, cells := 0, slots := 0, locals := 0 } : Room) s m #[(.ref a1), (.ref a2), (.int p3), (.int p4)] below meth c n0 0 0 h25 (mkF m 177 #[.val (.ref a1), .val (.ref a2), .val (.int p3), .val (.int p4), .val (.int v7), .val (.int v10), .val (.long ev), .second, .val (.int ep), .val (.int ei), .val (.int v21)] [(.int v27), (.ref a1)])) (T25.setTop (mkF m 163 #[.val (.ref a1), .val (.ref a2), .val (.int p3), .val (.int p4), .val (.int v7), .val (.int v10), .val (.long ev), .second, .val (.int ep), .val (.int ei), .val (.int v21)] [(.int ep), (.ref a1)])) := by
               by_cases hc26 : ep < (0 : Int32)
               · refine Go.step (fun t k => XS.ifNo X25.here hx rfl (hb hby d4_163) rfl ((if0 _ _).trans (tlt hc26).2.1) k) ?_
                 show Go p e below _ (T25.setTop (mkF m 166 _ [(.ref a1)]))
                 refine gC (q := 167) (v := 0) X25 hx (hb hby d4_166) rfl rfl ?_
                 refine Go.step (fun t k => XS.goto X25.here hx rfl (pc0 := 167) (pc' := 177) rfl (hb hby d4_167) (by decide) (by decide) k) ?_
                 show Go p e below _ (T25.setTop (mkF m 177 _ [(.int (0 : Int32)), (.ref a1)]))
                 exact Go.here ⟨_, _, by simp only [hv27, if_pos hc26], X25, N25, e25⟩
               · refine Go.step (fun t k => XS.ifYes X25.here hx rfl (pc0 := 163) (pc' := 170) rfl (hb hby d4_163) rfl ((if0 _ _).trans (flt hc26).2.1) (by decide) (by decide) k) ?_
                 show Go p e below _ (T25.setTop (mkF m 170 _ [(.ref a1)]))
                 refine gJ (q := 172) X25 hx (hb hby d4_170) rfl rfl ?_
                 refine gJ (q := 174) X25 hx (hb hby d4_172) rfl rfl ?_
                 refine Go.step (fun t k => XS.isub X25.here hx rfl (hb hby d4_174) rfl k) ?_
                 show Go p e below _ (T25.setTop (mkF m 175 _ [(.int (ei - ep)), (.ref a1)]))
                 refine gC (q := 176) (v := 1) X25 hx (hb hby d4_175) rfl rfl ?_
                 refine Go.step (fun t k => XS.isub X25.here hx rfl (hb hby d4_176) rfl k) ?_
                 show Go p e below _ (T25.setTop (mkF m 177 _ [(.int ((ei - ep) - (1 : Int32))), (.ref a1)]))
                 exact Go.here ⟨_, _, by simp only [hv27, if_neg hc26], X25, N25, e25⟩
              obtain ⟨_, st28, T28, Lj28, rfl, X28, N28, e28⟩ := J163
              refine Go.trans st28 ?_
              show Go p e below _ (T28.setTop (mkF m 177 _ [(.int v27), (.ref a1)]))
              obtain rfl : sv = v27 := by subst hv27; subst hv21; subst hv19; subst hv14; subst hv10; subst hv7; exact hsv.symm
              clear hv27
              show Go p e below _ (T28.setTop (mkF m 177 #[.val (.ref a1), .val (.ref a2), .val (.int p3), .val (.int p4), .val (.int v7), .val (.int v10), .val (.long ev), .second, .val (.int ep), .val (.int ei), .val (.int v21)] [(.int sv), (.ref a1)]))
              obtain ⟨T29, h29, X29, e29, W29, st29⟩ := putF X28 hx hZ hown (host := "") (Or.inl (hw _ (List.mem_of_getElem? (i := 43) rfl))) Via.refl e28 F_scale_a1_25 E_a1_25 (Or.inl (hw _ (List.mem_of_getElem? (i := 44) rfl))) (hw _ (List.mem_of_getElem? (i := 27) rfl)) (ty := .int) (by decide) rfl rfl (g := (mkF m 177 #[.val (.ref a1), .val (.ref a2), .val (.int p3), .val (.int p4), .val (.int v7), .val (.int v10), .val (.long ev), .second, .val (.int ep), .val (.int ei), .val (.int v21)] [(.int sv), (.ref a1)])) rfl rfl (hb hby d4_177)
              refine Go.step st29 ?_
              have N29 := Fr.snoc X29 N28 g_a1
              have A_a2_29 := A_a2_25.other W29 hne_a2_a1
              have E_a1_29 := E_a1_25.wr W29
              have F_unscaled_a1_29 := F_unscaled_a1_25.other W29 (Or.inr (slot_ne (Or.inl (hw _ (List.mem_of_getElem? (i := 42) rfl))) (Or.inl (hw _ (List.mem_of_getElem? (i := 44) rfl))) (by decide) (t := .long) (t' := .int) (by decide) (by decide)))
              have Z29 := Nat.le_trans Z25 (Keep.of_wr W29).1
              have KK29 : Keep h0 h29 [a1] := KK25.wr W29 (Or.inl (by simp))
              have F_scale_a1_29 := F_scale_a1_25.same W29
              show Go p e below _ (T29.setTop (mkF m 180 _ []))
              refine gJ (q := 182) X29 hx (hb hby d4_180) rfl rfl ?_
              subst hv21
              subst hv19
              subst hv14
              subst hv10
              subst hv7
              refine retGI X29 hx Bd.notSynchronized Bd.returns (hb hby d4_182) ?_ (by decide) (by decide)
              show Q4_ok Z a1 a2 p3 p4 n_t g_t ff0 ei ev ep uv sv u_scale_a1 u_unscaled_a1 u_unscaled_a1 u_unscaled_a1 u_unscaled_a1 u_unscaled_a1 h0 n0 _ T29.heap _
              rw [e29]
              exact ⟨rfl, N29, KK29, F_scale_a1_29, E_a1_29, F_unscaled_a1_29⟩
          · refine Go.step (fun t k => XS.icmpYes Xl12.here hx rfl (pc0 := 92) (pc' := 110) rfl (hb hby d4_92) rfl (feq hc16).2 (by decide) (by decide) k) ?_
            show Go p e below _ (Tl12.setTop (mkF m 110 _ []))
            have hE := hR
            rw [rd_no _ (Or.inl (by rw [← hv14]; exact hc15)) (Or.inl hc16)] at hE
            have hE1 : ei = ix := (congrArg (fun z => z.1) hE).symm
            have hE2 : ev = vl := (congrArg (fun z => z.2.1) hE).symm
            have hE3 : ep = pt := (congrArg (fun z => z.2.2) hE).symm
            subst hE1 hE2 hE3
            show Go p e below _ (Tl12.setTop (mkF m 110 _ []))
            refine gJ (q := 112) Xl12 hx (hb hby d4_110) rfl rfl ?_
            refine gJ (q := 114) Xl12 hx (hb hby d4_112) rfl rfl ?_
            refine Go.step (fun t k => XS.isub Xl12.here hx rfl (hb hby d4_114) rfl k) ?_
            show Go p e below _ (Tl12.setTop (mkF m 115 _ [(.int (ei - v10))]))
            refine gJ (q := 117) Xl12 hx (hb hby d4_115) rfl rfl ?_
            obtain ⟨v31, hv31⟩ : ∃ z : Int32, z = (if ep < (0 : Int32) then (0 : Int32) else (1 : Int32)) := ⟨_, rfl⟩
            have J117 : Go p e below (AtF p l e ({ frames := 0, cells := 0, slots := 0, locals := 0 } : Room) s m #[(.ref a1), (.ref a2), (.int p3), (.int p4)] below meth c n0 0 0 h0 (mkF m 125 #[.val (.ref a1), .val (.ref a2), .val (.int p3), .val (.int p4), .val (.int v7), .val (.int v10), .val (.long ev), .second, .val (.int ep), .val (.int ei), .val (.int v14)] [(.int v31), (.int (ei - v10))])) (Tl12.setTop (mkF m 117 #[.val (.ref a1), .val (.ref a2), .val (.int p3), .val (.int p4), .val (.int v7), .val (.int v10), .val (.long ev), .second, .val (.int ep), .val (.int ei), .val (.int v14)] [(.int ep), (.int (ei - v10))])) := by
             by_cases hc30 : ep < (0 : Int32)
             · refine Go.step (fun t k => XS.ifNo Xl12.here hx rfl (hb hby d4_117) rfl ((if0 _ _).trans (tlt hc30).2.1) k) ?_
               show Go p e below _ (Tl12.setTop (mkF m 120 _ [(.int (ei - v10))]))
               refine gC (q := 121) (v := 0) Xl12 hx (hb hby d4_120) rfl rfl ?_
               refine Go.step (fun t k => XS.goto Xl12.here hx rfl (pc0 := 121) (pc' := 125) rfl (hb hby d4_121) (by decide) (by decide) k) ?_
               show Go p e below _ (Tl12.setTop (mkF m 125 _ [(.int (0 : Int32)), (.int (ei - v10))]))
               exact Go.here ⟨_, _, by simp only [hv31, if_pos hc30], Xl12, Nl12, el12⟩
             · refine Go.step (fun t k => XS.ifYes Xl12.here hx rfl (pc0 := 117) (pc' := 124) rfl (hb hby d4_117) rfl ((if0 _ _).trans (flt hc30).2.1) (by decide) (by decide) k) ?_
               show Go p e below _ (Tl12.setTop (mkF m 124 _ [(.int (ei - v10))]))
               refine gC (q := 125) (v := 1) Xl12 hx (hb hby d4_124) rfl rfl ?_
               show Go p e below _ (Tl12.setTop (mkF m 125 _ [(.int (1 : Int32)), (.int (ei - v10))]))
               exact Go.here ⟨_, _, by simp only [hv31, if_neg hc30], Xl12, Nl12, el12⟩
            obtain ⟨_, st32, T32, Lj32, rfl, X32, N32, e32⟩ := J117
            refine Go.trans st32 ?_
            show Go p e below _ (T32.setTop (mkF m 125 _ [(.int v31), (.int (ei - v10))]))
            refine Go.step (fun t k => XS.isub X32.here hx rfl (hb hby d4_125) rfl k) ?_
            show Go p e below _ (T32.setTop (mkF m 126 _ [(.int ((ei - v10) - v31))]))
            refine nameIt (fun zz : Int32 => Go p e below _ (T32.setTop (mkF m 126 #[.val (.ref a1), .val (.ref a2), .val (.int p3), .val (.int p4), .val (.int v7), .val (.int v10), .val (.long ev), .second, .val (.int ep), .val (.int ei), .val (.int v14)] [(.int zz)]))) ((ei - v10) - v31) ?_
            intro v33 hv33
            show Go p e below _ (T32.setTop (mkF m 126 _ [(.int v33)]))
            refine Go.step (fun t k => XS.istore X32.here hx rfl (hb hby d4_126) rfl (l' := #[.val (.ref a1), .val (.ref a2), .val (.int p3), .val (.int p4), .val (.int v7), .val (.int v10), .val (.long ev), .second, .val (.int ep), .val (.int ei), .val (.int v33)]) rfl k) ?_
            show Go p e below _ (T32.setTop (mkF m 128 _ []))
            refine gJ (q := 130) X32 hx (hb hby d4_128) rfl rfl ?_
            refine gC (q := 131) (v := 1) X32 hx (hb hby d4_130) rfl rfl ?_
            refine Go.step (fun t k => XS.icmpNo X32.here hx rfl (hb hby d4_131) rfl (flt (by subst_vars; exact hd1 : ¬ (v33 < (1 : Int32)))).1 k) ?_
            show Go p e below _ (T32.setTop (mkF m 134 _ []))
            refine gJ (q := 136) X32 hx (hb hby d4_134) rfl rfl ?_
            refine Go.step (fun t k => XS.bipush X32.here hx rfl (hb hby d4_136)  k) ?_
            show Go p e below _ (T32.setTop (mkF m 138 _ [(.int (18 : Int32)), (.int v33)]))
            refine Go.step (fun t k => XS.icmpYes X32.here hx rfl (pc0 := 138) (pc' := 143) rfl (hb hby d4_138) rfl (flt (by subst_vars; exact hd2 : ¬ ((18 : Int32) < v33))).2.2.2 (by decide) (by decide) k) ?_
            show Go p e below _ (T32.setTop (mkF m 143 _ []))
            refine gA (q := 144) X32 hx (hb hby d4_143) rfl rfl rfl ?_
            refine gJ (q := 146) X32 hx (hb hby d4_144) rfl rfl ?_
            obtain ⟨v35, hv35⟩ : ∃ z : Int64, z = (if v7 = (0 : Int32) then ev else (-ev)) := ⟨_, rfl⟩
            have J146 : Go p e below (AtF p l e ({ frames := 0, cells := 0, slots := 0, locals := 0 } : Room) s m #[(.ref a1), (.ref a2), (.int p3), (.int p4)] below meth c n0 0 0 h0 (mkF m 157 #[.val (.ref a1), .val (.ref a2), .val (.int p3), .val (.int p4), .val (.int v7), .val (.int v10), .val (.long ev), .second, .val (.int ep), .val (.int ei), .val (.int v33)] [(.long v35), (.ref a1)])) (T32.setTop (mkF m 146 #[.val (.ref a1), .val (.ref a2), .val (.int p3), .val (.int p4), .val (.int v7), .val (.int v10), .val (.long ev), .second, .val (.int ep), .val (.int ei), .val (.int v33)] [(.int v7), (.ref a1)])) := by
             by_cases hc34 : v7 = (0 : Int32)
             · refine Go.step (fun t k => XS.ifYes X32.here hx rfl (pc0 := 146) (pc' := 155) rfl (hb hby d4_146) rfl ((if0 _ _).trans (teq hc34).1) (by decide) (by decide) k) ?_
               show Go p e below _ (T32.setTop (mkF m 155 _ [(.ref a1)]))
               refine Go.step (fun t k => XS.lload X32.here hx rfl (hb hby d4_155) rfl k) ?_
               show Go p e below _ (T32.setTop (mkF m 157 _ [(.long ev), (.ref a1)]))
               exact Go.here ⟨_, _, by simp only [hv35, if_pos hc34], X32, N32, e32⟩
             · refine Go.step (fun t k => XS.ifNo X32.here hx rfl (hb hby d4_146) rfl ((if0 _ _).trans (feq hc34).1) k) ?_
               show Go p e below _ (T32.setTop (mkF m 149 _ [(.ref a1)]))
               refine Go.step (fun t k => XS.lload X32.here hx rfl (hb hby d4_149) rfl k) ?_
               show Go p e below _ (T32.setTop (mkF m 151 _ [(.long ev), (.ref a1)]))
               refine Go.step (fun t k => XS.lneg X32.here hx rfl (hb hby d4_151) rfl k) ?_
               show Go p e below _ (T32.setTop (mkF m 152 _ [(.long (-ev)), (.ref a1)]))
               refine Go.step (fun t k => XS.goto X32.here hx rfl (pc0 := 152) (pc' := 157) rfl (hb hby d4_152) (by decide) (by decide) k) ?_
               show Go p e below _ (T32.setTop (mkF m 157 _ [(.long (-ev)), (.ref a1)]))
               exact Go.here ⟨_, _, by simp only [hv35, if_neg hc34], X32, N32, e32⟩
            obtain ⟨_, st36, T36, Lj36, rfl, X36, N36, e36⟩ := J146
            refine Go.trans st36 ?_
            show Go p e below _ (T36.setTop (mkF m 157 _ [(.long v35), (.ref a1)]))
            obtain rfl : uv = v35 := by subst hv35; subst hv33; subst hv31; subst hv14; subst hv10; subst hv7; exact huv.symm
            clear hv35
            show Go p e below _ (T36.setTop (mkF m 157 #[.val (.ref a1), .val (.ref a2), .val (.int p3), .val (.int p4), .val (.int v7), .val (.int v10), .val (.long ev), .second, .val (.int ep), .val (.int ei), .val (.int v33)] [(.long uv), (.ref a1)]))
            obtain ⟨T37, h37, X37, e37, W37, st37⟩ := putF X36 hx hZ hown (host := "") (Or.inl (hw _ (List.mem_of_getElem? (i := 41) rfl))) Via.refl e36 F_unscaled_a1 E_a1 (Or.inl (hw _ (List.mem_of_getElem? (i := 42) rfl))) (hw _ (List.mem_of_getElem? (i := 27) rfl)) (ty := .long) (by decide) rfl rfl (g := (mkF m 157 #[.val (.ref a1), .val (.ref a2), .val (.int p3), .val (.int p4), .val (.int v7), .val (.int v10), .val (.long ev), .second, .val (.int ep), .val (.int ei), .val (.int v33)] [(.long uv), (.ref a1)])) rfl rfl (hb hby d4_157)
            refine Go.step st37 ?_
            have N37 := Fr.snoc X37 N36 g_a1
            have A_a2_37 := A_a2.other W37 hne_a2_a1
            have F_scale_a1_37 := F_scale_a1.other W37 (Or.inr (slot_ne (Or.inl (hw _ (List.mem_of_getElem? (i := 44) rfl))) (Or.inl (hw _ (List.mem_of_getElem? (i := 42) rfl))) (by decide) (t := .int) (t' := .long) (by decide) (by decide)))
            have E_a1_37 := E_a1.wr W37
            have Z37 := Nat.le_trans Z0 (Keep.of_wr W37).1
            have KK37 : Keep h0 h37 [a1] := KK0.wr W37 (Or.inl (by simp))
            have F_unscaled_a1_37 := F_unscaled_a1.same W37
            show Go p e below _ (T37.setTop (mkF m 160 _ []))
            refine gA (q := 161) X37 hx (hb hby d4_160) rfl rfl rfl ?_
            refine gJ (q := 163) X37 hx (hb hby d4_161) rfl rfl ?_
            obtain ⟨v39, hv39⟩ : ∃ z : Int32, z = (if ep < (0 : Int32) then (0 : Int32) else ((ei - ep) - (1 : Int32))) := ⟨_, rfl⟩
            have J163 : Go p e below (AtF p l e ({ frames := 0, cells := 0, slots := 0, locals := 0 } : Room) s m #[(.ref a1), (.ref a2), (.int p3), (.int p4)] below meth c n0 0 0 h37 (mkF m 177 #[.val (.ref a1), .val (.ref a2), .val (.int p3), .val (.int p4), .val (.int v7), .val (.int v10), .val (.long ev), .second, .val (.int ep), .val (.int ei), .val (.int v33)] [(.int v39), (.ref a1)])) (T37.setTop (mkF m 163 #[.val (.ref a1), .val (.ref a2), .val (.int p3), .val (.int p4), .val (.int v7), .val (.int v10), .val (.long ev), .second, .val (.int ep), .val (.int ei), .val (.int v33)] [(.int ep), (.ref a1)])) := by
             by_cases hc38 : ep < (0 : Int32)
             · refine Go.step (fun t k => XS.ifNo X37.here hx rfl (hb hby d4_163) rfl ((if0 _ _).trans (tlt hc38).2.1) k) ?_
               show Go p e below _ (T37.setTop (mkF m 166 _ [(.ref a1)]))
               refine gC (q := 167) (v := 0) X37 hx (hb hby d4_166) rfl rfl ?_
               refine Go.step (fun t k => XS.goto X37.here hx rfl (pc0 := 167) (pc' := 177) rfl (hb hby d4_167) (by decide) (by decide) k) ?_
               show Go p e below _ (T37.setTop (mkF m 177 _ [(.int (0 : Int32)), (.ref a1)]))
               exact Go.here ⟨_, _, by simp only [hv39, if_pos hc38], X37, N37, e37⟩
             · refine Go.step (fun t k => XS.ifYes X37.here hx rfl (pc0 := 163) (pc' := 170) rfl (hb hby d4_163) rfl ((if0 _ _).trans (flt hc38).2.1) (by decide) (by decide) k) ?_
               show Go p e below _ (T37.setTop (mkF m 170 _ [(.ref a1)]))
               refine gJ (q := 172) X37 hx (hb hby d4_170) rfl rfl ?_
               refine gJ (q := 174) X37 hx (hb hby d4_172) rfl rfl ?_
               refine Go.step (fun t k => XS.isub X37.here hx rfl (hb hby d4_174) rfl k) ?_
               show Go p e below _ (T37.setTop (mkF m 175 _ [(.int (ei - ep)), (.ref a1)]))
               refine gC (q := 176) (v := 1) X37 hx (hb hby d4_175) rfl rfl ?_
               refine Go.step (fun t k => XS.isub X37.here hx rfl (hb hby d4_176) rfl k) ?_
               show Go p e below _ (T37.setTop (mkF m 177 _ [(.int ((ei - ep) - (1 : Int32))), (.ref a1)]))
               exact Go.here ⟨_, _, by simp only [hv39, if_neg hc38], X37, N37, e37⟩
            obtain ⟨_, st40, T40, Lj40, rfl, X40, N40, e40⟩ := J163
            refine Go.trans st40 ?_
            show Go p e below _ (T40.setTop (mkF m 177 _ [(.int v39), (.ref a1)]))
            obtain rfl : sv = v39 := by subst hv39; subst hv33; subst hv31; subst hv14; subst hv10; subst hv7; exact hsv.symm
            clear hv39
            show Go p e below _ (T40.setTop (mkF m 177 #[.val (.ref a1), .val (.ref a2), .val (.int p3), .val (.int p4), .val (.int v7), .val (.int v10), .val (.long ev), .second, .val (.int ep), .val (.int ei), .val (.int v33)] [(.int sv), (.ref a1)]))
            obtain ⟨T41, h41, X41, e41, W41, st41⟩ := putF X40 hx hZ hown (host := "") (Or.inl (hw _ (List.mem_of_getElem? (i := 43) rfl))) Via.refl e40 F_scale_a1_37 E_a1_37 (Or.inl (hw _ (List.mem_of_getElem? (i := 44) rfl))) (hw _ (List.mem_of_getElem? (i := 27) rfl)) (ty := .int) (by decide) rfl rfl (g := (mkF m 177 #[.val (.ref a1), .val (.ref a2), .val (.int p3), .val (.int p4), .val (.int v7), .val (.int v10), .val (.long ev), .second, .val (.int ep), .val (.int ei), .val (.int v33)] [(.int sv), (.ref a1)])) rfl rfl (hb hby d4_177)
            refine Go.step st41 ?_
            have N41 := Fr.snoc X41 N40 g_a1
            have A_a2_41 := A_a2_37.other W41 hne_a2_a1
            have E_a1_41 := E_a1_37.wr W41
            have F_unscaled_a1_41 := F_unscaled_a1_37.other W41 (Or.inr (slot_ne (Or.inl (hw _ (List.mem_of_getElem? (i := 42) rfl))) (Or.inl (hw _ (List.mem_of_getElem? (i := 44) rfl))) (by decide) (t := .long) (t' := .int) (by decide) (by decide)))
            have Z41 := Nat.le_trans Z37 (Keep.of_wr W41).1
            have KK41 : Keep h0 h41 [a1] := KK37.wr W41 (Or.inl (by simp))
            have F_scale_a1_41 := F_scale_a1_37.same W41
            show Go p e below _ (T41.setTop (mkF m 180 _ []))
            refine gJ (q := 182) X41 hx (hb hby d4_180) rfl rfl ?_
            subst hv33
            subst hv31
            subst hv14
            subst hv10
            subst hv7
            refine retGI X41 hx Bd.notSynchronized Bd.returns (hb hby d4_182) ?_ (by decide) (by decide)
            show Q4_ok Z a1 a2 p3 p4 n_t g_t ff0 ei ev ep uv sv u_scale_a1 u_unscaled_a1 u_unscaled_a1 u_unscaled_a1 u_unscaled_a1 u_unscaled_a1 h0 n0 _ T41.heap _
            rw [e41]
            exact ⟨rfl, N41, KK41, F_scale_a1_41, E_a1_41, F_unscaled_a1_41⟩
        · refine Go.step (fun t k => XS.ifNo Xl12.here hx rfl (hb hby d4_61) rfl ((if0 _ _).trans (flt hc15).1) k) ?_
          show Go p e below _ (Tl12.setTop (mkF m 64 _ []))
          refine gJ (q := 66) Xl12 hx (hb hby d4_64) rfl rfl ?_
          refine Go.step (fun t k => XS.bipush Xl12.here hx rfl (hb hby d4_66)  k) ?_
          show Go p e below _ (Tl12.setTop (mkF m 68 _ [(.int (9 : Int32)), (.int v14)]))
          by_cases hc42 : (9 : Int32) < v14
          · refine Go.step (fun t k => XS.icmpYes Xl12.here hx rfl (pc0 := 68) (pc' := 86) rfl (hb hby d4_68) rfl (tlt hc42).2.2.1 (by decide) (by decide) k) ?_
            show Go p e below _ (Tl12.setTop (mkF m 86 _ []))
            refine gA (q := 87) Xl12 hx (hb hby d4_86) rfl rfl rfl ?_
            refine gJ (q := 89) Xl12 hx (hb hby d4_87) rfl rfl ?_
            refine Go.step (ldB Xl12 hx hZ el12 A_a2 (j := ix) ((nn_iff ix).mpr hi) (own_lt hi hc13 hlen) (g := (mkF m 89 _ [(.int ix), (.ref a2)])) rfl rfl (hb hby d4_89)) ?_
            show Go p e below _ (Tl12.setTop (mkF m 90 _ [(.int (g_t ix.toNatClampNeg))]))
            refine Go.step (fun t k => XS.bipush Xl12.here hx rfl (hb hby d4_90)  k) ?_
            show Go p e below _ (Tl12.setTop (mkF m 92 _ [(.int (46 : Int32)), (.int (g_t ix.toNatClampNeg))]))
            by_cases hc43 : (g_t ix.toNatClampNeg) = (46 : Int32)
            · refine Go.step (fun t k => XS.icmpNo Xl12.here hx rfl (hb hby d4_92) rfl (teq hc43).2 k) ?_
              show Go p e below _ (Tl12.setTop (mkF m 95 _ []))
              refine gJ (q := 97) Xl12 hx (hb hby d4_95) rfl rfl ?_
              by_cases hc44 : pt < (0 : Int32)
              · refine Go.step (fun t k => XS.ifNo Xl12.here hx rfl (hb hby d4_97) rfl ((if0 _ _).trans (tlt hc44).2.1) k) ?_
                show Go p e below _ (Tl12.setTop (mkF m 100 _ []))
                refine gJ (q := 102) Xl12 hx (hb hby d4_100) rfl rfl ?_
                refine Go.step (fun t k => XS.istore Xl12.here hx rfl (hb hby d4_102) rfl (l' := #[.val (.ref a1), .val (.ref a2), .val (.int p3), .val (.int p4), .val (.int v7), .val (.int v10), .val (.long vl), .second, .val (.int ix), .val (.int ix), .val (.int v14)]) rfl k) ?_
                show Go p e below _ (Tl12.setTop (mkF m 104 _ []))
                refine Go.step (fun t k => XS.iinc Xl12.here hx rfl (hb hby d4_104) rfl (l' := #[.val (.ref a1), .val (.ref a2), .val (.int p3), .val (.int p4), .val (.int v7), .val (.int v10), .val (.long vl), .second, .val (.int ix), .val (.int (ix + (1 : Int32))), .val (.int v14)]) rfl k) ?_
                show Go p e below _ (Tl12.setTop (mkF m 107 _ []))
                refine Go.step (fun t k => XS.goto Xl12.here hx rfl (pc0 := 107) (pc' := 44) rfl (hb hby d4_107) (by decide) (by decide) k) ?_
                show Go p e below _ (Tl12.setTop (mkF m 44 _ []))
                show Go p e below _ (Tl12.setTop (mkF m 44 _ []))
                exact ih _ (by omega) fu (ix + (1 : Int32)) vl ix _ (One.val rfl) _ _ rfl (by have q := hR; rw [rd_dot fu hc13 hc43 hc44] at q; exact q) (by rw [own_i1 hc13]; omega) (by rw [own_i1 hc13]; omega) Xl12 Nl12 el12
              · refine Go.step (fun t k => XS.ifYes Xl12.here hx rfl (pc0 := 97) (pc' := 110) rfl (hb hby d4_97) rfl ((if0 _ _).trans (flt hc44).2.1) (by decide) (by decide) k) ?_
                show Go p e below _ (Tl12.setTop (mkF m 110 _ []))
                have hE := hR
                rw [rd_no _ (Or.inr (by rw [← hv14]; exact hc42)) (Or.inr hc44)] at hE
                have hE1 : ei = ix := (congrArg (fun z => z.1) hE).symm
                have hE2 : ev = vl := (congrArg (fun z => z.2.1) hE).symm
                have hE3 : ep = pt := (congrArg (fun z => z.2.2) hE).symm
                subst hE1 hE2 hE3
                show Go p e below _ (Tl12.setTop (mkF m 110 _ []))
                refine gJ (q := 112) Xl12 hx (hb hby d4_110) rfl rfl ?_
                refine gJ (q := 114) Xl12 hx (hb hby d4_112) rfl rfl ?_
                refine Go.step (fun t k => XS.isub Xl12.here hx rfl (hb hby d4_114) rfl k) ?_
                show Go p e below _ (Tl12.setTop (mkF m 115 _ [(.int (ei - v10))]))
                refine gJ (q := 117) Xl12 hx (hb hby d4_115) rfl rfl ?_
                obtain ⟨v46, hv46⟩ : ∃ z : Int32, z = (if ep < (0 : Int32) then (0 : Int32) else (1 : Int32)) := ⟨_, rfl⟩
                have J117 : Go p e below (AtF p l e ({ frames := 0, cells := 0, slots := 0, locals := 0 } : Room) s m #[(.ref a1), (.ref a2), (.int p3), (.int p4)] below meth c n0 0 0 h0 (mkF m 125 #[.val (.ref a1), .val (.ref a2), .val (.int p3), .val (.int p4), .val (.int v7), .val (.int v10), .val (.long ev), .second, .val (.int ep), .val (.int ei), .val (.int v14)] [(.int v46), (.int (ei - v10))])) (Tl12.setTop (mkF m 117 #[.val (.ref a1), .val (.ref a2), .val (.int p3), .val (.int p4), .val (.int v7), .val (.int v10), .val (.long ev), .second, .val (.int ep), .val (.int ei), .val (.int v14)] [(.int ep), (.int (ei - v10))])) := by
                 by_cases hc45 : ep < (0 : Int32)
                 · refine Go.step (fun t k => XS.ifNo Xl12.here hx rfl (hb hby d4_117) rfl ((if0 _ _).trans (tlt hc45).2.1) k) ?_
                   show Go p e below _ (Tl12.setTop (mkF m 120 _ [(.int (ei - v10))]))
                   refine gC (q := 121) (v := 0) Xl12 hx (hb hby d4_120) rfl rfl ?_
                   refine Go.step (fun t k => XS.goto Xl12.here hx rfl (pc0 := 121) (pc' := 125) rfl (hb hby d4_121) (by decide) (by decide) k) ?_
                   show Go p e below _ (Tl12.setTop (mkF m 125 _ [(.int (0 : Int32)), (.int (ei - v10))]))
                   exact Go.here ⟨_, _, by simp only [hv46, if_pos hc45], Xl12, Nl12, el12⟩
                 · refine Go.step (fun t k => XS.ifYes Xl12.here hx rfl (pc0 := 117) (pc' := 124) rfl (hb hby d4_117) rfl ((if0 _ _).trans (flt hc45).2.1) (by decide) (by decide) k) ?_
                   show Go p e below _ (Tl12.setTop (mkF m 124 _ [(.int (ei - v10))]))
                   refine gC (q := 125) (v := 1) Xl12 hx (hb hby d4_124) rfl rfl ?_
                   show Go p e below _ (Tl12.setTop (mkF m 125 _ [(.int (1 : Int32)), (.int (ei - v10))]))
                   exact Go.here ⟨_, _, by simp only [hv46, if_neg hc45], Xl12, Nl12, el12⟩
                obtain ⟨_, st47, T47, Lj47, rfl, X47, N47, e47⟩ := J117
                refine Go.trans st47 ?_
                show Go p e below _ (T47.setTop (mkF m 125 _ [(.int v46), (.int (ei - v10))]))
                refine Go.step (fun t k => XS.isub X47.here hx rfl (hb hby d4_125) rfl k) ?_
                show Go p e below _ (T47.setTop (mkF m 126 _ [(.int ((ei - v10) - v46))]))
                refine nameIt (fun zz : Int32 => Go p e below _ (T47.setTop (mkF m 126 #[.val (.ref a1), .val (.ref a2), .val (.int p3), .val (.int p4), .val (.int v7), .val (.int v10), .val (.long ev), .second, .val (.int ep), .val (.int ei), .val (.int v14)] [(.int zz)]))) ((ei - v10) - v46) ?_
                intro v48 hv48
                show Go p e below _ (T47.setTop (mkF m 126 _ [(.int v48)]))
                refine Go.step (fun t k => XS.istore X47.here hx rfl (hb hby d4_126) rfl (l' := #[.val (.ref a1), .val (.ref a2), .val (.int p3), .val (.int p4), .val (.int v7), .val (.int v10), .val (.long ev), .second, .val (.int ep), .val (.int ei), .val (.int v48)]) rfl k) ?_
                show Go p e below _ (T47.setTop (mkF m 128 _ []))
                refine gJ (q := 130) X47 hx (hb hby d4_128) rfl rfl ?_
                refine gC (q := 131) (v := 1) X47 hx (hb hby d4_130) rfl rfl ?_
                refine Go.step (fun t k => XS.icmpNo X47.here hx rfl (hb hby d4_131) rfl (flt (by subst_vars; exact hd1 : ¬ (v48 < (1 : Int32)))).1 k) ?_
                show Go p e below _ (T47.setTop (mkF m 134 _ []))
                refine gJ (q := 136) X47 hx (hb hby d4_134) rfl rfl ?_
                refine Go.step (fun t k => XS.bipush X47.here hx rfl (hb hby d4_136)  k) ?_
                show Go p e below _ (T47.setTop (mkF m 138 _ [(.int (18 : Int32)), (.int v48)]))
                refine Go.step (fun t k => XS.icmpYes X47.here hx rfl (pc0 := 138) (pc' := 143) rfl (hb hby d4_138) rfl (flt (by subst_vars; exact hd2 : ¬ ((18 : Int32) < v48))).2.2.2 (by decide) (by decide) k) ?_
                show Go p e below _ (T47.setTop (mkF m 143 _ []))
                refine gA (q := 144) X47 hx (hb hby d4_143) rfl rfl rfl ?_
                refine gJ (q := 146) X47 hx (hb hby d4_144) rfl rfl ?_
                obtain ⟨v50, hv50⟩ : ∃ z : Int64, z = (if v7 = (0 : Int32) then ev else (-ev)) := ⟨_, rfl⟩
                have J146 : Go p e below (AtF p l e ({ frames := 0, cells := 0, slots := 0, locals := 0 } : Room) s m #[(.ref a1), (.ref a2), (.int p3), (.int p4)] below meth c n0 0 0 h0 (mkF m 157 #[.val (.ref a1), .val (.ref a2), .val (.int p3), .val (.int p4), .val (.int v7), .val (.int v10), .val (.long ev), .second, .val (.int ep), .val (.int ei), .val (.int v48)] [(.long v50), (.ref a1)])) (T47.setTop (mkF m 146 #[.val (.ref a1), .val (.ref a2), .val (.int p3), .val (.int p4), .val (.int v7), .val (.int v10), .val (.long ev), .second, .val (.int ep), .val (.int ei), .val (.int v48)] [(.int v7), (.ref a1)])) := by
                 by_cases hc49 : v7 = (0 : Int32)
                 · refine Go.step (fun t k => XS.ifYes X47.here hx rfl (pc0 := 146) (pc' := 155) rfl (hb hby d4_146) rfl ((if0 _ _).trans (teq hc49).1) (by decide) (by decide) k) ?_
                   show Go p e below _ (T47.setTop (mkF m 155 _ [(.ref a1)]))
                   refine Go.step (fun t k => XS.lload X47.here hx rfl (hb hby d4_155) rfl k) ?_
                   show Go p e below _ (T47.setTop (mkF m 157 _ [(.long ev), (.ref a1)]))
                   exact Go.here ⟨_, _, by simp only [hv50, if_pos hc49], X47, N47, e47⟩
                 · refine Go.step (fun t k => XS.ifNo X47.here hx rfl (hb hby d4_146) rfl ((if0 _ _).trans (feq hc49).1) k) ?_
                   show Go p e below _ (T47.setTop (mkF m 149 _ [(.ref a1)]))
                   refine Go.step (fun t k => XS.lload X47.here hx rfl (hb hby d4_149) rfl k) ?_
                   show Go p e below _ (T47.setTop (mkF m 151 _ [(.long ev), (.ref a1)]))
                   refine Go.step (fun t k => XS.lneg X47.here hx rfl (hb hby d4_151) rfl k) ?_
                   show Go p e below _ (T47.setTop (mkF m 152 _ [(.long (-ev)), (.ref a1)]))
                   refine Go.step (fun t k => XS.goto X47.here hx rfl (pc0 := 152) (pc' := 157) rfl (hb hby d4_152) (by decide) (by decide) k) ?_
                   show Go p e below _ (T47.setTop (mkF m 157 _ [(.long (-ev)), (.ref a1)]))
                   exact Go.here ⟨_, _, by simp only [hv50, if_neg hc49], X47, N47, e47⟩
                obtain ⟨_, st51, T51, Lj51, rfl, X51, N51, e51⟩ := J146
                refine Go.trans st51 ?_
                show Go p e below _ (T51.setTop (mkF m 157 _ [(.long v50), (.ref a1)]))
                obtain rfl : uv = v50 := by subst hv50; subst hv48; subst hv46; subst hv14; subst hv10; subst hv7; exact huv.symm
                clear hv50
                show Go p e below _ (T51.setTop (mkF m 157 #[.val (.ref a1), .val (.ref a2), .val (.int p3), .val (.int p4), .val (.int v7), .val (.int v10), .val (.long ev), .second, .val (.int ep), .val (.int ei), .val (.int v48)] [(.long uv), (.ref a1)]))
                obtain ⟨T52, h52, X52, e52, W52, st52⟩ := putF X51 hx hZ hown (host := "") (Or.inl (hw _ (List.mem_of_getElem? (i := 41) rfl))) Via.refl e51 F_unscaled_a1 E_a1 (Or.inl (hw _ (List.mem_of_getElem? (i := 42) rfl))) (hw _ (List.mem_of_getElem? (i := 27) rfl)) (ty := .long) (by decide) rfl rfl (g := (mkF m 157 #[.val (.ref a1), .val (.ref a2), .val (.int p3), .val (.int p4), .val (.int v7), .val (.int v10), .val (.long ev), .second, .val (.int ep), .val (.int ei), .val (.int v48)] [(.long uv), (.ref a1)])) rfl rfl (hb hby d4_157)
                refine Go.step st52 ?_
                have N52 := Fr.snoc X52 N51 g_a1
                have A_a2_52 := A_a2.other W52 hne_a2_a1
                have F_scale_a1_52 := F_scale_a1.other W52 (Or.inr (slot_ne (Or.inl (hw _ (List.mem_of_getElem? (i := 44) rfl))) (Or.inl (hw _ (List.mem_of_getElem? (i := 42) rfl))) (by decide) (t := .int) (t' := .long) (by decide) (by decide)))
                have E_a1_52 := E_a1.wr W52
                have Z52 := Nat.le_trans Z0 (Keep.of_wr W52).1
                have KK52 : Keep h0 h52 [a1] := KK0.wr W52 (Or.inl (by simp))
                have F_unscaled_a1_52 := F_unscaled_a1.same W52
                show Go p e below _ (T52.setTop (mkF m 160 _ []))
                refine gA (q := 161) X52 hx (hb hby d4_160) rfl rfl rfl ?_
                refine gJ (q := 163) X52 hx (hb hby d4_161) rfl rfl ?_
                obtain ⟨v54, hv54⟩ : ∃ z : Int32, z = (if ep < (0 : Int32) then (0 : Int32) else ((ei - ep) - (1 : Int32))) := ⟨_, rfl⟩
                have J163 : Go p e below (AtF p l e ({ frames := 0, cells := 0, slots := 0, locals := 0 } : Room) s m #[(.ref a1), (.ref a2), (.int p3), (.int p4)] below meth c n0 0 0 h52 (mkF m 177 #[.val (.ref a1), .val (.ref a2), .val (.int p3), .val (.int p4), .val (.int v7), .val (.int v10), .val (.long ev), .second, .val (.int ep), .val (.int ei), .val (.int v48)] [(.int v54), (.ref a1)])) (T52.setTop (mkF m 163 #[.val (.ref a1), .val (.ref a2), .val (.int p3), .val (.int p4), .val (.int v7), .val (.int v10), .val (.long ev), .second, .val (.int ep), .val (.int ei), .val (.int v48)] [(.int ep), (.ref a1)])) := by
                 by_cases hc53 : ep < (0 : Int32)
                 · refine Go.step (fun t k => XS.ifNo X52.here hx rfl (hb hby d4_163) rfl ((if0 _ _).trans (tlt hc53).2.1) k) ?_
                   show Go p e below _ (T52.setTop (mkF m 166 _ [(.ref a1)]))
                   refine gC (q := 167) (v := 0) X52 hx (hb hby d4_166) rfl rfl ?_
                   refine Go.step (fun t k => XS.goto X52.here hx rfl (pc0 := 167) (pc' := 177) rfl (hb hby d4_167) (by decide) (by decide) k) ?_
                   show Go p e below _ (T52.setTop (mkF m 177 _ [(.int (0 : Int32)), (.ref a1)]))
                   exact Go.here ⟨_, _, by simp only [hv54, if_pos hc53], X52, N52, e52⟩
                 · refine Go.step (fun t k => XS.ifYes X52.here hx rfl (pc0 := 163) (pc' := 170) rfl (hb hby d4_163) rfl ((if0 _ _).trans (flt hc53).2.1) (by decide) (by decide) k) ?_
                   show Go p e below _ (T52.setTop (mkF m 170 _ [(.ref a1)]))
                   refine gJ (q := 172) X52 hx (hb hby d4_170) rfl rfl ?_
                   refine gJ (q := 174) X52 hx (hb hby d4_172) rfl rfl ?_
                   refine Go.step (fun t k => XS.isub X52.here hx rfl (hb hby d4_174) rfl k) ?_
                   show Go p e below _ (T52.setTop (mkF m 175 _ [(.int (ei - ep)), (.ref a1)]))
                   refine gC (q := 176) (v := 1) X52 hx (hb hby d4_175) rfl rfl ?_
                   refine Go.step (fun t k => XS.isub X52.here hx rfl (hb hby d4_176) rfl k) ?_
                   show Go p e below _ (T52.setTop (mkF m 177 _ [(.int ((ei - ep) - (1 : Int32))), (.ref a1)]))
                   exact Go.here ⟨_, _, by simp only [hv54, if_neg hc53], X52, N52, e52⟩
                obtain ⟨_, st55, T55, Lj55, rfl, X55, N55, e55⟩ := J163
                refine Go.trans st55 ?_
                show Go p e below _ (T55.setTop (mkF m 177 _ [(.int v54), (.ref a1)]))
                obtain rfl : sv = v54 := by subst hv54; subst hv48; subst hv46; subst hv14; subst hv10; subst hv7; exact hsv.symm
                clear hv54
                show Go p e below _ (T55.setTop (mkF m 177 #[.val (.ref a1), .val (.ref a2), .val (.int p3), .val (.int p4), .val (.int v7), .val (.int v10), .val (.long ev), .second, .val (.int ep), .val (.int ei), .val (.int v48)] [(.int sv), (.ref a1)]))
                obtain ⟨T56, h56, X56, e56, W56, st56⟩ := putF X55 hx hZ hown (host := "") (Or.inl (hw _ (List.mem_of_getElem? (i := 43) rfl))) Via.refl e55 F_scale_a1_52 E_a1_52 (Or.inl (hw _ (List.mem_of_getElem? (i := 44) rfl))) (hw _ (List.mem_of_getElem? (i := 27) rfl)) (ty := .int) (by decide) rfl rfl (g := (mkF m 177 #[.val (.ref a1), .val (.ref a2), .val (.int p3), .val (.int p4), .val (.int v7), .val (.int v10), .val (.long ev), .second, .val (.int ep), .val (.int ei), .val (.int v48)] [(.int sv), (.ref a1)])) rfl rfl (hb hby d4_177)
                refine Go.step st56 ?_
                have N56 := Fr.snoc X56 N55 g_a1
                have A_a2_56 := A_a2_52.other W56 hne_a2_a1
                have E_a1_56 := E_a1_52.wr W56
                have F_unscaled_a1_56 := F_unscaled_a1_52.other W56 (Or.inr (slot_ne (Or.inl (hw _ (List.mem_of_getElem? (i := 42) rfl))) (Or.inl (hw _ (List.mem_of_getElem? (i := 44) rfl))) (by decide) (t := .long) (t' := .int) (by decide) (by decide)))
                have Z56 := Nat.le_trans Z52 (Keep.of_wr W56).1
                have KK56 : Keep h0 h56 [a1] := KK52.wr W56 (Or.inl (by simp))
                have F_scale_a1_56 := F_scale_a1_52.same W56
                show Go p e below _ (T56.setTop (mkF m 180 _ []))
                refine gJ (q := 182) X56 hx (hb hby d4_180) rfl rfl ?_
                subst hv48
                subst hv46
                subst hv14
                subst hv10
                subst hv7
                refine retGI X56 hx Bd.notSynchronized Bd.returns (hb hby d4_182) ?_ (by decide) (by decide)
                show Q4_ok Z a1 a2 p3 p4 n_t g_t ff0 ei ev ep uv sv u_scale_a1 u_unscaled_a1 u_unscaled_a1 u_unscaled_a1 u_unscaled_a1 u_unscaled_a1 h0 n0 _ T56.heap _
                rw [e56]
                exact ⟨rfl, N56, KK56, F_scale_a1_56, E_a1_56, F_unscaled_a1_56⟩
            · refine Go.step (fun t k => XS.icmpYes Xl12.here hx rfl (pc0 := 92) (pc' := 110) rfl (hb hby d4_92) rfl (feq hc43).2 (by decide) (by decide) k) ?_
              show Go p e below _ (Tl12.setTop (mkF m 110 _ []))
              have hE := hR
              rw [rd_no _ (Or.inr (by rw [← hv14]; exact hc42)) (Or.inl hc43)] at hE
              have hE1 : ei = ix := (congrArg (fun z => z.1) hE).symm
              have hE2 : ev = vl := (congrArg (fun z => z.2.1) hE).symm
              have hE3 : ep = pt := (congrArg (fun z => z.2.2) hE).symm
              subst hE1 hE2 hE3
              show Go p e below _ (Tl12.setTop (mkF m 110 _ []))
              refine gJ (q := 112) Xl12 hx (hb hby d4_110) rfl rfl ?_
              refine gJ (q := 114) Xl12 hx (hb hby d4_112) rfl rfl ?_
              refine Go.step (fun t k => XS.isub Xl12.here hx rfl (hb hby d4_114) rfl k) ?_
              show Go p e below _ (Tl12.setTop (mkF m 115 _ [(.int (ei - v10))]))
              refine gJ (q := 117) Xl12 hx (hb hby d4_115) rfl rfl ?_
              obtain ⟨v58, hv58⟩ : ∃ z : Int32, z = (if ep < (0 : Int32) then (0 : Int32) else (1 : Int32)) := ⟨_, rfl⟩
              have J117 : Go p e below (AtF p l e ({ frames := 0, cells := 0, slots := 0, locals := 0 } : Room) s m #[(.ref a1), (.ref a2), (.int p3), (.int p4)] below meth c n0 0 0 h0 (mkF m 125 #[.val (.ref a1), .val (.ref a2), .val (.int p3), .val (.int p4), .val (.int v7), .val (.int v10), .val (.long ev), .second, .val (.int ep), .val (.int ei), .val (.int v14)] [(.int v58), (.int (ei - v10))])) (Tl12.setTop (mkF m 117 #[.val (.ref a1), .val (.ref a2), .val (.int p3), .val (.int p4), .val (.int v7), .val (.int v10), .val (.long ev), .second, .val (.int ep), .val (.int ei), .val (.int v14)] [(.int ep), (.int (ei - v10))])) := by
               by_cases hc57 : ep < (0 : Int32)
               · refine Go.step (fun t k => XS.ifNo Xl12.here hx rfl (hb hby d4_117) rfl ((if0 _ _).trans (tlt hc57).2.1) k) ?_
                 show Go p e below _ (Tl12.setTop (mkF m 120 _ [(.int (ei - v10))]))
                 refine gC (q := 121) (v := 0) Xl12 hx (hb hby d4_120) rfl rfl ?_
                 refine Go.step (fun t k => XS.goto Xl12.here hx rfl (pc0 := 121) (pc' := 125) rfl (hb hby d4_121) (by decide) (by decide) k) ?_
                 show Go p e below _ (Tl12.setTop (mkF m 125 _ [(.int (0 : Int32)), (.int (ei - v10))]))
                 exact Go.here ⟨_, _, by simp only [hv58, if_pos hc57], Xl12, Nl12, el12⟩
               · refine Go.step (fun t k => XS.ifYes Xl12.here hx rfl (pc0 := 117) (pc' := 124) rfl (hb hby d4_117) rfl ((if0 _ _).trans (flt hc57).2.1) (by decide) (by decide) k) ?_
                 show Go p e below _ (Tl12.setTop (mkF m 124 _ [(.int (ei - v10))]))
                 refine gC (q := 125) (v := 1) Xl12 hx (hb hby d4_124) rfl rfl ?_
                 show Go p e below _ (Tl12.setTop (mkF m 125 _ [(.int (1 : Int32)), (.int (ei - v10))]))
                 exact Go.here ⟨_, _, by simp only [hv58, if_neg hc57], Xl12, Nl12, el12⟩
              obtain ⟨_, st59, T59, Lj59, rfl, X59, N59, e59⟩ := J117
              refine Go.trans st59 ?_
              show Go p e below _ (T59.setTop (mkF m 125 _ [(.int v58), (.int (ei - v10))]))
              refine Go.step (fun t k => XS.isub X59.here hx rfl (hb hby d4_125) rfl k) ?_
              show Go p e below _ (T59.setTop (mkF m 126 _ [(.int ((ei - v10) - v58))]))
              refine nameIt (fun zz : Int32 => Go p e below _ (T59.setTop (mkF m 126 #[.val (.ref a1), .val (.ref a2), .val (.int p3), .val (.int p4), .val (.int v7), .val (.int v10), .val (.long ev), .second, .val (.int ep), .val (.int ei), .val (.int v14)] [(.int zz)]))) ((ei - v10) - v58) ?_
              intro v60 hv60
              show Go p e below _ (T59.setTop (mkF m 126 _ [(.int v60)]))
              refine Go.step (fun t k => XS.istore X59.here hx rfl (hb hby d4_126) rfl (l' := #[.val (.ref a1), .val (.ref a2), .val (.int p3), .val (.int p4), .val (.int v7), .val (.int v10), .val (.long ev), .second, .val (.int ep), .val (.int ei), .val (.int v60)]) rfl k) ?_
              show Go p e below _ (T59.setTop (mkF m 128 _ []))
              refine gJ (q := 130) X59 hx (hb hby d4_128) rfl rfl ?_
              refine gC (q := 131) (v := 1) X59 hx (hb hby d4_130) rfl rfl ?_
              refine Go.step (fun t k => XS.icmpNo X59.here hx rfl (hb hby d4_131) rfl (flt (by subst_vars; exact hd1 : ¬ (v60 < (1 : Int32)))).1 k) ?_
              show Go p e below _ (T59.setTop (mkF m 134 _ []))
              refine gJ (q := 136) X59 hx (hb hby d4_134) rfl rfl ?_
              refine Go.step (fun t k => XS.bipush X59.here hx rfl (hb hby d4_136)  k) ?_
              show Go p e below _ (T59.setTop (mkF m 138 _ [(.int (18 : Int32)), (.int v60)]))
              refine Go.step (fun t k => XS.icmpYes X59.here hx rfl (pc0 := 138) (pc' := 143) rfl (hb hby d4_138) rfl (flt (by subst_vars; exact hd2 : ¬ ((18 : Int32) < v60))).2.2.2 (by decide) (by decide) k) ?_
              show Go p e below _ (T59.setTop (mkF m 143 _ []))
              refine gA (q := 144) X59 hx (hb hby d4_143) rfl rfl rfl ?_
              refine gJ (q := 146) X59 hx (hb hby d4_144) rfl rfl ?_
              obtain ⟨v62, hv62⟩ : ∃ z : Int64, z = (if v7 = (0 : Int32) then ev else (-ev)) := ⟨_, rfl⟩
              have J146 : Go p e below (AtF p l e ({ frames := 0, cells := 0, slots := 0, locals := 0 } : Room) s m #[(.ref a1), (.ref a2), (.int p3), (.int p4)] below meth c n0 0 0 h0 (mkF m 157 #[.val (.ref a1), .val (.ref a2), .val (.int p3), .val (.int p4), .val (.int v7), .val (.int v10), .val (.long ev), .second, .val (.int ep), .val (.int ei), .val (.int v60)] [(.long v62), (.ref a1)])) (T59.setTop (mkF m 146 #[.val (.ref a1), .val (.ref a2), .val (.int p3), .val (.int p4), .val (.int v7), .val (.int v10), .val (.long ev), .second, .val (.int ep), .val (.int ei), .val (.int v60)] [(.int v7), (.ref a1)])) := by
               by_cases hc61 : v7 = (0 : Int32)
               · refine Go.step (fun t k => XS.ifYes X59.here hx rfl (pc0 := 146) (pc' := 155) rfl (hb hby d4_146) rfl ((if0 _ _).trans (teq hc61).1) (by decide) (by decide) k) ?_
                 show Go p e below _ (T59.setTop (mkF m 155 _ [(.ref a1)]))
                 refine Go.step (fun t k => XS.lload X59.here hx rfl (hb hby d4_155) rfl k) ?_
                 show Go p e below _ (T59.setTop (mkF m 157 _ [(.long ev), (.ref a1)]))
                 exact Go.here ⟨_, _, by simp only [hv62, if_pos hc61], X59, N59, e59⟩
               · refine Go.step (fun t k => XS.ifNo X59.here hx rfl (hb hby d4_146) rfl ((if0 _ _).trans (feq hc61).1) k) ?_
                 show Go p e below _ (T59.setTop (mkF m 149 _ [(.ref a1)]))
                 refine Go.step (fun t k => XS.lload X59.here hx rfl (hb hby d4_149) rfl k) ?_
                 show Go p e below _ (T59.setTop (mkF m 151 _ [(.long ev), (.ref a1)]))
                 refine Go.step (fun t k => XS.lneg X59.here hx rfl (hb hby d4_151) rfl k) ?_
                 show Go p e below _ (T59.setTop (mkF m 152 _ [(.long (-ev)), (.ref a1)]))
                 refine Go.step (fun t k => XS.goto X59.here hx rfl (pc0 := 152) (pc' := 157) rfl (hb hby d4_152) (by decide) (by decide) k) ?_
                 show Go p e below _ (T59.setTop (mkF m 157 _ [(.long (-ev)), (.ref a1)]))
                 exact Go.here ⟨_, _, by simp only [hv62, if_neg hc61], X59, N59, e59⟩
              obtain ⟨_, st63, T63, Lj63, rfl, X63, N63, e63⟩ := J146
              refine Go.trans st63 ?_
              show Go p e below _ (T63.setTop (mkF m 157 _ [(.long v62), (.ref a1)]))
              obtain rfl : uv = v62 := by subst hv62; subst hv60; subst hv58; subst hv14; subst hv10; subst hv7; exact huv.symm
              clear hv62
              show Go p e below _ (T63.setTop (mkF m 157 #[.val (.ref a1), .val (.ref a2), .val (.int p3), .val (.int p4), .val (.int v7), .val (.int v10), .val (.long ev), .second, .val (.int ep), .val (.int ei), .val (.int v60)] [(.long uv), (.ref a1)]))
              obtain ⟨T64, h64, X64, e64, W64, st64⟩ := putF X63 hx hZ hown (host := "") (Or.inl (hw _ (List.mem_of_getElem? (i := 41) rfl))) Via.refl e63 F_unscaled_a1 E_a1 (Or.inl (hw _ (List.mem_of_getElem? (i := 42) rfl))) (hw _ (List.mem_of_getElem? (i := 27) rfl)) (ty := .long) (by decide) rfl rfl (g := (mkF m 157 #[.val (.ref a1), .val (.ref a2), .val (.int p3), .val (.int p4), .val (.int v7), .val (.int v10), .val (.long ev), .second, .val (.int ep), .val (.int ei), .val (.int v60)] [(.long uv), (.ref a1)])) rfl rfl (hb hby d4_157)
              refine Go.step st64 ?_
              have N64 := Fr.snoc X64 N63 g_a1
              have A_a2_64 := A_a2.other W64 hne_a2_a1
              have F_scale_a1_64 := F_scale_a1.other W64 (Or.inr (slot_ne (Or.inl (hw _ (List.mem_of_getElem? (i := 44) rfl))) (Or.inl (hw _ (List.mem_of_getElem? (i := 42) rfl))) (by decide) (t := .int) (t' := .long) (by decide) (by decide)))
              have E_a1_64 := E_a1.wr W64
              have Z64 := Nat.le_trans Z0 (Keep.of_wr W64).1
              have KK64 : Keep h0 h64 [a1] := KK0.wr W64 (Or.inl (by simp))
              have F_unscaled_a1_64 := F_unscaled_a1.same W64
              show Go p e below _ (T64.setTop (mkF m 160 _ []))
              refine gA (q := 161) X64 hx (hb hby d4_160) rfl rfl rfl ?_
              refine gJ (q := 163) X64 hx (hb hby d4_161) rfl rfl ?_
              obtain ⟨v66, hv66⟩ : ∃ z : Int32, z = (if ep < (0 : Int32) then (0 : Int32) else ((ei - ep) - (1 : Int32))) := ⟨_, rfl⟩
              have J163 : Go p e below (AtF p l e ({ frames := 0, cells := 0, slots := 0, locals := 0 } : Room) s m #[(.ref a1), (.ref a2), (.int p3), (.int p4)] below meth c n0 0 0 h64 (mkF m 177 #[.val (.ref a1), .val (.ref a2), .val (.int p3), .val (.int p4), .val (.int v7), .val (.int v10), .val (.long ev), .second, .val (.int ep), .val (.int ei), .val (.int v60)] [(.int v66), (.ref a1)])) (T64.setTop (mkF m 163 #[.val (.ref a1), .val (.ref a2), .val (.int p3), .val (.int p4), .val (.int v7), .val (.int v10), .val (.long ev), .second, .val (.int ep), .val (.int ei), .val (.int v60)] [(.int ep), (.ref a1)])) := by
               by_cases hc65 : ep < (0 : Int32)
               · refine Go.step (fun t k => XS.ifNo X64.here hx rfl (hb hby d4_163) rfl ((if0 _ _).trans (tlt hc65).2.1) k) ?_
                 show Go p e below _ (T64.setTop (mkF m 166 _ [(.ref a1)]))
                 refine gC (q := 167) (v := 0) X64 hx (hb hby d4_166) rfl rfl ?_
                 refine Go.step (fun t k => XS.goto X64.here hx rfl (pc0 := 167) (pc' := 177) rfl (hb hby d4_167) (by decide) (by decide) k) ?_
                 show Go p e below _ (T64.setTop (mkF m 177 _ [(.int (0 : Int32)), (.ref a1)]))
                 exact Go.here ⟨_, _, by simp only [hv66, if_pos hc65], X64, N64, e64⟩
               · refine Go.step (fun t k => XS.ifYes X64.here hx rfl (pc0 := 163) (pc' := 170) rfl (hb hby d4_163) rfl ((if0 _ _).trans (flt hc65).2.1) (by decide) (by decide) k) ?_
                 show Go p e below _ (T64.setTop (mkF m 170 _ [(.ref a1)]))
                 refine gJ (q := 172) X64 hx (hb hby d4_170) rfl rfl ?_
                 refine gJ (q := 174) X64 hx (hb hby d4_172) rfl rfl ?_
                 refine Go.step (fun t k => XS.isub X64.here hx rfl (hb hby d4_174) rfl k) ?_
                 show Go p e below _ (T64.setTop (mkF m 175 _ [(.int (ei - ep)), (.ref a1)]))
                 refine gC (q := 176) (v := 1) X64 hx (hb hby d4_175) rfl rfl ?_
                 refine Go.step (fun t k => XS.isub X64.here hx rfl (hb hby d4_176) rfl k) ?_
                 show Go p e below _ (T64.setTop (mkF m 177 _ [(.int ((ei - ep) - (1 : Int32))), (.ref a1)]))
                 exact Go.here ⟨_, _, by simp only [hv66, if_neg hc65], X64, N64, e64⟩
              obtain ⟨_, st67, T67, Lj67, rfl, X67, N67, e67⟩ := J163
              refine Go.trans st67 ?_
              show Go p e below _ (T67.setTop (mkF m 177 _ [(.int v66), (.ref a1)]))
              obtain rfl : sv = v66 := by subst hv66; subst hv60; subst hv58; subst hv14; subst hv10; subst hv7; exact hsv.symm
              clear hv66
              show Go p e below _ (T67.setTop (mkF m 177 #[.val (.ref a1), .val (.ref a2), .val (.int p3), .val (.int p4), .val (.int v7), .val (.int v10), .val (.long ev), .second, .val (.int ep), .val (.int ei), .val (.int v60)] [(.int sv), (.ref a1)]))
              obtain ⟨T68, h68, X68, e68, W68, st68⟩ := putF X67 hx hZ hown (host := "") (Or.inl (hw _ (List.mem_of_getElem? (i := 43) rfl))) Via.refl e67 F_scale_a1_64 E_a1_64 (Or.inl (hw _ (List.mem_of_getElem? (i := 44) rfl))) (hw _ (List.mem_of_getElem? (i := 27) rfl)) (ty := .int) (by decide) rfl rfl (g := (mkF m 177 #[.val (.ref a1), .val (.ref a2), .val (.int p3), .val (.int p4), .val (.int v7), .val (.int v10), .val (.long ev), .second, .val (.int ep), .val (.int ei), .val (.int v60)] [(.int sv), (.ref a1)])) rfl rfl (hb hby d4_177)
              refine Go.step st68 ?_
              have N68 := Fr.snoc X68 N67 g_a1
              have A_a2_68 := A_a2_64.other W68 hne_a2_a1
              have E_a1_68 := E_a1_64.wr W68
              have F_unscaled_a1_68 := F_unscaled_a1_64.other W68 (Or.inr (slot_ne (Or.inl (hw _ (List.mem_of_getElem? (i := 42) rfl))) (Or.inl (hw _ (List.mem_of_getElem? (i := 44) rfl))) (by decide) (t := .long) (t' := .int) (by decide) (by decide)))
              have Z68 := Nat.le_trans Z64 (Keep.of_wr W68).1
              have KK68 : Keep h0 h68 [a1] := KK64.wr W68 (Or.inl (by simp))
              have F_scale_a1_68 := F_scale_a1_64.same W68
              show Go p e below _ (T68.setTop (mkF m 180 _ []))
              refine gJ (q := 182) X68 hx (hb hby d4_180) rfl rfl ?_
              subst hv60
              subst hv58
              subst hv14
              subst hv10
              subst hv7
              refine retGI X68 hx Bd.notSynchronized Bd.returns (hb hby d4_182) ?_ (by decide) (by decide)
              show Q4_ok Z a1 a2 p3 p4 n_t g_t ff0 ei ev ep uv sv u_scale_a1 u_unscaled_a1 u_unscaled_a1 u_unscaled_a1 u_unscaled_a1 u_unscaled_a1 h0 n0 _ T68.heap _
              rw [e68]
              exact ⟨rfl, N68, KK68, F_scale_a1_68, E_a1_68, F_unscaled_a1_68⟩
          · refine Go.step (fun t k => XS.icmpNo Xl12.here hx rfl (hb hby d4_68) rfl (flt hc42).2.2.1 k) ?_
            show Go p e below _ (Tl12.setTop (mkF m 71 _ []))
            refine Go.step (fun t k => XS.lload Xl12.here hx rfl (hb hby d4_71) rfl k) ?_
            show Go p e below _ (Tl12.setTop (mkF m 73 _ [(.long vl)]))
            refine Go.step (Xl12.ldc2Long hx hown (mvT hZ (hw _ (List.mem_of_getElem? (i := 40) rfl))) (g := (mkF m 73 #[.val (.ref a1), .val (.ref a2), .val (.int p3), .val (.int p4), .val (.int v7), .val (.int v10), .val (.long vl), .second, .val (.int pt), .val (.int ix), .val (.int v14)] [(.long vl)])) rfl (hb hby d4_73)) ?_
            show Go p e below _ (Tl12.setTop (mkF m 76 _ [(.long (10 : Int64)), (.long vl)]))
            refine Go.step (fun t k => XS.lmul Xl12.here hx rfl (hb hby d4_76) rfl k) ?_
            show Go p e below _ (Tl12.setTop (mkF m 77 _ [(.long (vl * (10 : Int64)))]))
            refine gJ (q := 79) Xl12 hx (hb hby d4_77) rfl rfl ?_
            refine Go.step (fun t k => XS.i2l Xl12.here hx rfl (hb hby d4_79) rfl k) ?_
            show Go p e below _ (Tl12.setTop (mkF m 80 _ [(.long (v14.toInt64)), (.long (vl * (10 : Int64)))]))
            refine Go.step (fun t k => XS.ladd Xl12.here hx rfl (hb hby d4_80) rfl k) ?_
            show Go p e below _ (Tl12.setTop (mkF m 81 _ [(.long ((vl * (10 : Int64)) + (v14.toInt64)))]))
            refine nameIt (fun zz : Int64 => Go p e below _ (Tl12.setTop (mkF m 81 #[.val (.ref a1), .val (.ref a2), .val (.int p3), .val (.int p4), .val (.int v7), .val (.int v10), .val (.long vl), .second, .val (.int pt), .val (.int ix), .val (.int v14)] [(.long zz)]))) ((vl * (10 : Int64)) + (v14.toInt64)) ?_
            intro v69 hv69
            show Go p e below _ (Tl12.setTop (mkF m 81 _ [(.long v69)]))
            refine Go.step (fun t k => XS.lstore Xl12.here hx rfl (hb hby d4_81) rfl (l' := #[.val (.ref a1), .val (.ref a2), .val (.int p3), .val (.int p4), .val (.int v7), .val (.int v10), .val (.long v69), .second, .val (.int pt), .val (.int ix), .val (.int v14)]) rfl k) ?_
            show Go p e below _ (Tl12.setTop (mkF m 83 _ []))
            refine Go.step (fun t k => XS.goto Xl12.here hx rfl (pc0 := 83) (pc' := 104) rfl (hb hby d4_83) (by decide) (by decide) k) ?_
            show Go p e below _ (Tl12.setTop (mkF m 104 _ []))
            refine Go.step (fun t k => XS.iinc Xl12.here hx rfl (hb hby d4_104) rfl (l' := #[.val (.ref a1), .val (.ref a2), .val (.int p3), .val (.int p4), .val (.int v7), .val (.int v10), .val (.long v69), .second, .val (.int pt), .val (.int (ix + (1 : Int32))), .val (.int v14)]) rfl k) ?_
            show Go p e below _ (Tl12.setTop (mkF m 107 _ []))
            refine Go.step (fun t k => XS.goto Xl12.here hx rfl (pc0 := 107) (pc' := 44) rfl (hb hby d4_107) (by decide) (by decide) k) ?_
            show Go p e below _ (Tl12.setTop (mkF m 44 _ []))
            show Go p e below _ (Tl12.setTop (mkF m 44 _ []))
            exact ih _ (by omega) fu (ix + (1 : Int32)) v69 pt _ (One.val rfl) _ _ rfl (by rw [hv69, hv14]; have q := hR; rw [rd_dig fu hc13 (by rw [← hv14]; exact hc15) (by rw [← hv14]; exact hc42)] at q; exact q) (by rw [own_i1 hc13]; omega) (by rw [own_i1 hc13]; omega) Xl12 Nl12 el12
      · refine Go.step (fun t k => XS.icmpYes Xl12.here hx rfl (pc0 := 47) (pc' := 110) rfl (hb hby d4_47) rfl (flt hc13).2.1 (by decide) (by decide) k) ?_
        show Go p e below _ (Tl12.setTop (mkF m 110 _ []))
        have hE := hR
        rw [rd_end _ hc13] at hE
        have hE1 : ei = ix := (congrArg (fun z => z.1) hE).symm
        have hE2 : ev = vl := (congrArg (fun z => z.2.1) hE).symm
        have hE3 : ep = pt := (congrArg (fun z => z.2.2) hE).symm
        subst hE1 hE2 hE3
        show Go p e below _ (Tl12.setTop (mkF m 110 _ []))
        refine gJ (q := 112) Xl12 hx (hb hby d4_110) rfl rfl ?_
        refine gJ (q := 114) Xl12 hx (hb hby d4_112) rfl rfl ?_
        refine Go.step (fun t k => XS.isub Xl12.here hx rfl (hb hby d4_114) rfl k) ?_
        show Go p e below _ (Tl12.setTop (mkF m 115 _ [(.int (ei - v10))]))
        refine gJ (q := 117) Xl12 hx (hb hby d4_115) rfl rfl ?_
        obtain ⟨v71, hv71⟩ : ∃ z : Int32, z = (if ep < (0 : Int32) then (0 : Int32) else (1 : Int32)) := ⟨_, rfl⟩
        have J117 : Go p e below (AtF p l e ({ frames := 0, cells := 0, slots := 0, locals := 0 } : Room) s m #[(.ref a1), (.ref a2), (.int p3), (.int p4)] below meth c n0 0 0 h0 (mkF m 125 #[.val (.ref a1), .val (.ref a2), .val (.int p3), .val (.int p4), .val (.int v7), .val (.int v10), .val (.long ev), .second, .val (.int ep), .val (.int ei), sl10] [(.int v71), (.int (ei - v10))])) (Tl12.setTop (mkF m 117 #[.val (.ref a1), .val (.ref a2), .val (.int p3), .val (.int p4), .val (.int v7), .val (.int v10), .val (.long ev), .second, .val (.int ep), .val (.int ei), sl10] [(.int ep), (.int (ei - v10))])) := by
         by_cases hc70 : ep < (0 : Int32)
         · refine Go.step (fun t k => XS.ifNo Xl12.here hx rfl (hb hby d4_117) rfl ((if0 _ _).trans (tlt hc70).2.1) k) ?_
           show Go p e below _ (Tl12.setTop (mkF m 120 _ [(.int (ei - v10))]))
           refine gC (q := 121) (v := 0) Xl12 hx (hb hby d4_120) rfl rfl ?_
           refine Go.step (fun t k => XS.goto Xl12.here hx rfl (pc0 := 121) (pc' := 125) rfl (hb hby d4_121) (by decide) (by decide) k) ?_
           show Go p e below _ (Tl12.setTop (mkF m 125 _ [(.int (0 : Int32)), (.int (ei - v10))]))
           exact Go.here ⟨_, _, by simp only [hv71, if_pos hc70], Xl12, Nl12, el12⟩
         · refine Go.step (fun t k => XS.ifYes Xl12.here hx rfl (pc0 := 117) (pc' := 124) rfl (hb hby d4_117) rfl ((if0 _ _).trans (flt hc70).2.1) (by decide) (by decide) k) ?_
           show Go p e below _ (Tl12.setTop (mkF m 124 _ [(.int (ei - v10))]))
           refine gC (q := 125) (v := 1) Xl12 hx (hb hby d4_124) rfl rfl ?_
           show Go p e below _ (Tl12.setTop (mkF m 125 _ [(.int (1 : Int32)), (.int (ei - v10))]))
           exact Go.here ⟨_, _, by simp only [hv71, if_neg hc70], Xl12, Nl12, el12⟩
        obtain ⟨_, st72, T72, Lj72, rfl, X72, N72, e72⟩ := J117
        refine Go.trans st72 ?_
        show Go p e below _ (T72.setTop (mkF m 125 _ [(.int v71), (.int (ei - v10))]))
        refine Go.step (fun t k => XS.isub X72.here hx rfl (hb hby d4_125) rfl k) ?_
        show Go p e below _ (T72.setTop (mkF m 126 _ [(.int ((ei - v10) - v71))]))
        refine nameIt (fun zz : Int32 => Go p e below _ (T72.setTop (mkF m 126 #[.val (.ref a1), .val (.ref a2), .val (.int p3), .val (.int p4), .val (.int v7), .val (.int v10), .val (.long ev), .second, .val (.int ep), .val (.int ei), sl10] [(.int zz)]))) ((ei - v10) - v71) ?_
        intro v73 hv73
        show Go p e below _ (T72.setTop (mkF m 126 _ [(.int v73)]))
        refine Go.step (fun t k => XS.istore X72.here hx rfl (hb hby d4_126) rfl (l' := #[.val (.ref a1), .val (.ref a2), .val (.int p3), .val (.int p4), .val (.int v7), .val (.int v10), .val (.long ev), .second, .val (.int ep), .val (.int ei), .val (.int v73)]) (by rcases hsl10 with rfl | ⟨w, rfl, hw⟩ <;> first | rfl | (cases w <;> first | rfl | (simp [Value.category] at hw))) k) ?_
        show Go p e below _ (T72.setTop (mkF m 128 _ []))
        refine gJ (q := 130) X72 hx (hb hby d4_128) rfl rfl ?_
        refine gC (q := 131) (v := 1) X72 hx (hb hby d4_130) rfl rfl ?_
        refine Go.step (fun t k => XS.icmpNo X72.here hx rfl (hb hby d4_131) rfl (flt (by subst_vars; exact hd1 : ¬ (v73 < (1 : Int32)))).1 k) ?_
        show Go p e below _ (T72.setTop (mkF m 134 _ []))
        refine gJ (q := 136) X72 hx (hb hby d4_134) rfl rfl ?_
        refine Go.step (fun t k => XS.bipush X72.here hx rfl (hb hby d4_136)  k) ?_
        show Go p e below _ (T72.setTop (mkF m 138 _ [(.int (18 : Int32)), (.int v73)]))
        refine Go.step (fun t k => XS.icmpYes X72.here hx rfl (pc0 := 138) (pc' := 143) rfl (hb hby d4_138) rfl (flt (by subst_vars; exact hd2 : ¬ ((18 : Int32) < v73))).2.2.2 (by decide) (by decide) k) ?_
        show Go p e below _ (T72.setTop (mkF m 143 _ []))
        refine gA (q := 144) X72 hx (hb hby d4_143) rfl rfl rfl ?_
        refine gJ (q := 146) X72 hx (hb hby d4_144) rfl rfl ?_
        obtain ⟨v75, hv75⟩ : ∃ z : Int64, z = (if v7 = (0 : Int32) then ev else (-ev)) := ⟨_, rfl⟩
        have J146 : Go p e below (AtF p l e ({ frames := 0, cells := 0, slots := 0, locals := 0 } : Room) s m #[(.ref a1), (.ref a2), (.int p3), (.int p4)] below meth c n0 0 0 h0 (mkF m 157 #[.val (.ref a1), .val (.ref a2), .val (.int p3), .val (.int p4), .val (.int v7), .val (.int v10), .val (.long ev), .second, .val (.int ep), .val (.int ei), .val (.int v73)] [(.long v75), (.ref a1)])) (T72.setTop (mkF m 146 #[.val (.ref a1), .val (.ref a2), .val (.int p3), .val (.int p4), .val (.int v7), .val (.int v10), .val (.long ev), .second, .val (.int ep), .val (.int ei), .val (.int v73)] [(.int v7), (.ref a1)])) := by
         by_cases hc74 : v7 = (0 : Int32)
         · refine Go.step (fun t k => XS.ifYes X72.here hx rfl (pc0 := 146) (pc' := 155) rfl (hb hby d4_146) rfl ((if0 _ _).trans (teq hc74).1) (by decide) (by decide) k) ?_
           show Go p e below _ (T72.setTop (mkF m 155 _ [(.ref a1)]))
           refine Go.step (fun t k => XS.lload X72.here hx rfl (hb hby d4_155) rfl k) ?_
           show Go p e below _ (T72.setTop (mkF m 157 _ [(.long ev), (.ref a1)]))
           exact Go.here ⟨_, _, by simp only [hv75, if_pos hc74], X72, N72, e72⟩
         · refine Go.step (fun t k => XS.ifNo X72.here hx rfl (hb hby d4_146) rfl ((if0 _ _).trans (feq hc74).1) k) ?_
           show Go p e below _ (T72.setTop (mkF m 149 _ [(.ref a1)]))
           refine Go.step (fun t k => XS.lload X72.here hx rfl (hb hby d4_149) rfl k) ?_
           show Go p e below _ (T72.setTop (mkF m 151 _ [(.long ev), (.ref a1)]))
           refine Go.step (fun t k => XS.lneg X72.here hx rfl (hb hby d4_151) rfl k) ?_
           show Go p e below _ (T72.setTop (mkF m 152 _ [(.long (-ev)), (.ref a1)]))
           refine Go.step (fun t k => XS.goto X72.here hx rfl (pc0 := 152) (pc' := 157) rfl (hb hby d4_152) (by decide) (by decide) k) ?_
           show Go p e below _ (T72.setTop (mkF m 157 _ [(.long (-ev)), (.ref a1)]))
           exact Go.here ⟨_, _, by simp only [hv75, if_neg hc74], X72, N72, e72⟩
        obtain ⟨_, st76, T76, Lj76, rfl, X76, N76, e76⟩ := J146
        refine Go.trans st76 ?_
        show Go p e below _ (T76.setTop (mkF m 157 _ [(.long v75), (.ref a1)]))
        obtain rfl : uv = v75 := by subst hv75; subst hv73; subst hv71; subst hv10; subst hv7; exact huv.symm
        clear hv75
        show Go p e below _ (T76.setTop (mkF m 157 #[.val (.ref a1), .val (.ref a2), .val (.int p3), .val (.int p4), .val (.int v7), .val (.int v10), .val (.long ev), .second, .val (.int ep), .val (.int ei), .val (.int v73)] [(.long uv), (.ref a1)]))
        obtain ⟨T77, h77, X77, e77, W77, st77⟩ := putF X76 hx hZ hown (host := "") (Or.inl (hw _ (List.mem_of_getElem? (i := 41) rfl))) Via.refl e76 F_unscaled_a1 E_a1 (Or.inl (hw _ (List.mem_of_getElem? (i := 42) rfl))) (hw _ (List.mem_of_getElem? (i := 27) rfl)) (ty := .long) (by decide) rfl rfl (g := (mkF m 157 #[.val (.ref a1), .val (.ref a2), .val (.int p3), .val (.int p4), .val (.int v7), .val (.int v10), .val (.long ev), .second, .val (.int ep), .val (.int ei), .val (.int v73)] [(.long uv), (.ref a1)])) rfl rfl (hb hby d4_157)
        refine Go.step st77 ?_
        have N77 := Fr.snoc X77 N76 g_a1
        have A_a2_77 := A_a2.other W77 hne_a2_a1
        have F_scale_a1_77 := F_scale_a1.other W77 (Or.inr (slot_ne (Or.inl (hw _ (List.mem_of_getElem? (i := 44) rfl))) (Or.inl (hw _ (List.mem_of_getElem? (i := 42) rfl))) (by decide) (t := .int) (t' := .long) (by decide) (by decide)))
        have E_a1_77 := E_a1.wr W77
        have Z77 := Nat.le_trans Z0 (Keep.of_wr W77).1
        have KK77 : Keep h0 h77 [a1] := KK0.wr W77 (Or.inl (by simp))
        have F_unscaled_a1_77 := F_unscaled_a1.same W77
        show Go p e below _ (T77.setTop (mkF m 160 _ []))
        refine gA (q := 161) X77 hx (hb hby d4_160) rfl rfl rfl ?_
        refine gJ (q := 163) X77 hx (hb hby d4_161) rfl rfl ?_
        obtain ⟨v79, hv79⟩ : ∃ z : Int32, z = (if ep < (0 : Int32) then (0 : Int32) else ((ei - ep) - (1 : Int32))) := ⟨_, rfl⟩
        have J163 : Go p e below (AtF p l e ({ frames := 0, cells := 0, slots := 0, locals := 0 } : Room) s m #[(.ref a1), (.ref a2), (.int p3), (.int p4)] below meth c n0 0 0 h77 (mkF m 177 #[.val (.ref a1), .val (.ref a2), .val (.int p3), .val (.int p4), .val (.int v7), .val (.int v10), .val (.long ev), .second, .val (.int ep), .val (.int ei), .val (.int v73)] [(.int v79), (.ref a1)])) (T77.setTop (mkF m 163 #[.val (.ref a1), .val (.ref a2), .val (.int p3), .val (.int p4), .val (.int v7), .val (.int v10), .val (.long ev), .second, .val (.int ep), .val (.int ei), .val (.int v73)] [(.int ep), (.ref a1)])) := by
         by_cases hc78 : ep < (0 : Int32)
         · refine Go.step (fun t k => XS.ifNo X77.here hx rfl (hb hby d4_163) rfl ((if0 _ _).trans (tlt hc78).2.1) k) ?_
           show Go p e below _ (T77.setTop (mkF m 166 _ [(.ref a1)]))
           refine gC (q := 167) (v := 0) X77 hx (hb hby d4_166) rfl rfl ?_
           refine Go.step (fun t k => XS.goto X77.here hx rfl (pc0 := 167) (pc' := 177) rfl (hb hby d4_167) (by decide) (by decide) k) ?_
           show Go p e below _ (T77.setTop (mkF m 177 _ [(.int (0 : Int32)), (.ref a1)]))
           exact Go.here ⟨_, _, by simp only [hv79, if_pos hc78], X77, N77, e77⟩
         · refine Go.step (fun t k => XS.ifYes X77.here hx rfl (pc0 := 163) (pc' := 170) rfl (hb hby d4_163) rfl ((if0 _ _).trans (flt hc78).2.1) (by decide) (by decide) k) ?_
           show Go p e below _ (T77.setTop (mkF m 170 _ [(.ref a1)]))
           refine gJ (q := 172) X77 hx (hb hby d4_170) rfl rfl ?_
           refine gJ (q := 174) X77 hx (hb hby d4_172) rfl rfl ?_
           refine Go.step (fun t k => XS.isub X77.here hx rfl (hb hby d4_174) rfl k) ?_
           show Go p e below _ (T77.setTop (mkF m 175 _ [(.int (ei - ep)), (.ref a1)]))
           refine gC (q := 176) (v := 1) X77 hx (hb hby d4_175) rfl rfl ?_
           refine Go.step (fun t k => XS.isub X77.here hx rfl (hb hby d4_176) rfl k) ?_
           show Go p e below _ (T77.setTop (mkF m 177 _ [(.int ((ei - ep) - (1 : Int32))), (.ref a1)]))
           exact Go.here ⟨_, _, by simp only [hv79, if_neg hc78], X77, N77, e77⟩
        obtain ⟨_, st80, T80, Lj80, rfl, X80, N80, e80⟩ := J163
        refine Go.trans st80 ?_
        show Go p e below _ (T80.setTop (mkF m 177 _ [(.int v79), (.ref a1)]))
        obtain rfl : sv = v79 := by subst hv79; subst hv73; subst hv71; subst hv10; subst hv7; exact hsv.symm
        clear hv79
        show Go p e below _ (T80.setTop (mkF m 177 #[.val (.ref a1), .val (.ref a2), .val (.int p3), .val (.int p4), .val (.int v7), .val (.int v10), .val (.long ev), .second, .val (.int ep), .val (.int ei), .val (.int v73)] [(.int sv), (.ref a1)]))
        obtain ⟨T81, h81, X81, e81, W81, st81⟩ := putF X80 hx hZ hown (host := "") (Or.inl (hw _ (List.mem_of_getElem? (i := 43) rfl))) Via.refl e80 F_scale_a1_77 E_a1_77 (Or.inl (hw _ (List.mem_of_getElem? (i := 44) rfl))) (hw _ (List.mem_of_getElem? (i := 27) rfl)) (ty := .int) (by decide) rfl rfl (g := (mkF m 177 #[.val (.ref a1), .val (.ref a2), .val (.int p3), .val (.int p4), .val (.int v7), .val (.int v10), .val (.long ev), .second, .val (.int ep), .val (.int ei), .val (.int v73)] [(.int sv), (.ref a1)])) rfl rfl (hb hby d4_177)
        refine Go.step st81 ?_
        have N81 := Fr.snoc X81 N80 g_a1
        have A_a2_81 := A_a2_77.other W81 hne_a2_a1
        have E_a1_81 := E_a1_77.wr W81
        have F_unscaled_a1_81 := F_unscaled_a1_77.other W81 (Or.inr (slot_ne (Or.inl (hw _ (List.mem_of_getElem? (i := 42) rfl))) (Or.inl (hw _ (List.mem_of_getElem? (i := 44) rfl))) (by decide) (t := .long) (t' := .int) (by decide) (by decide)))
        have Z81 := Nat.le_trans Z77 (Keep.of_wr W81).1
        have KK81 : Keep h0 h81 [a1] := KK77.wr W81 (Or.inl (by simp))
        have F_scale_a1_81 := F_scale_a1_77.same W81
        show Go p e below _ (T81.setTop (mkF m 180 _ []))
        refine gJ (q := 182) X81 hx (hb hby d4_180) rfl rfl ?_
        subst hv73
        subst hv71
        subst hv10
        subst hv7
        refine retGI X81 hx Bd.notSynchronized Bd.returns (hb hby d4_182) ?_ (by decide) (by decide)
        show Q4_ok Z a1 a2 p3 p4 n_t g_t ff0 ei ev ep uv sv u_scale_a1 u_unscaled_a1 u_unscaled_a1 u_unscaled_a1 u_unscaled_a1 u_unscaled_a1 h0 n0 _ T81.heap _
        rw [e81]
        exact ⟨rfl, N81, KK81, F_scale_a1_81, E_a1_81, F_unscaled_a1_81⟩
  exact LOOP44 _ ff0 v10 (0 : Int64) (-1 : Int32) _ One.u _ _ rfl (by subst_vars; exact hR0) (by subst_vars; exact rdS_nn h3) (by subst_vars; have := rdS_nn (g := g_t) (b := p4) h3; unfold rdS rdN at this; omega) X11 N11 e11
theorem d4_141 : decode prog_81_method_2_code 141 = .ok (.iconst (-1), 1) := by decide +kernel
theorem d4_142 : decode prog_81_method_2_code 142 = .ok (.ireturn, 1) := by decide +kernel
theorem ef_4_lo (m : MethodId) (a1 : Addr) (a2 : Addr) (p3 : Int32) (p4 : Int32) : entryFrame m #[(.ref a1), (.ref a2), (.int p3), (.int p4)] 11 = mkF m 0 #[.val (.ref a1), .val (.ref a2), .val (.int p3), .val (.int p4), .unset, .unset, .unset, .unset, .unset, .unset, .unset] [] := by first | (simp [entryFrame, mkF, argsToLocals, Value.category]; done) | rfl
set_option maxRecDepth 65536 in
set_option maxHeartbeats 40000000 in
theorem rm4_lo (l : Launch) (Z : State) (a0 : Array Value) (hw : ∀ d ∈ tables_1, d.before a0 Z = true) (ws : List Jvm.Cond) (a1 : Addr) (a2 : Addr) (p3 : Int32) (p4 : Int32) (n_t : Nat) (g_t : Nat → Int32) (ff0 : Nat) (ei : Int32) (ev : Int64) (ep : Int32) (h0 : Heap) (n0 : Nat) (Z0 : n0 ≤ h0.size) (hlen : p4.toInt ≤ n_t) (h3 : 0 ≤ p3.toInt) (hR0 : rd g_t p4 ff0 (rdS g_t p3 p4) (0 : Int64) (-1 : Int32) = (ei, ev, ep)) (hf0 : p4.toInt ≤ ff0) (hd1 : (dgs g_t p3 p4 ei ep) < (1 : Int32)) (A_a2 : Ary Z h0 a2 .byte n_t (fun i => .int (g_t i))) :
    MetFree l (⟨"com/example/biller/biller/files/PlainValue", "read", "([BII)I"⟩ : MethodName) (head1 (Jvm.Cond.code (⟨"com/example/biller/biller/files/PlainValue", "read", "([BII)I"⟩ : MethodName) prog_81_method_2_code 11 (some .int) :: ws) ({ frames := 0, cells := 0, slots := 0, locals := 0 } : Room)) (fun a U => a = #[(.ref a1), (.ref a2), (.int p3), (.int p4)] ∧ Z.Warmed39 U.vm ∧ U.heap = h0) (fun _ _ _ _ _ => True) (fun _ U o U' => ∃ v L, o = .returned v ∧ QP (.int (-1 : Int32)) h0 n0 v U'.heap L ∧ FrameEnd U o U' L ({ frames := 0, cells := 0, slots := 0, locals := 0 } : Room).cells ({ frames := 0, cells := 0, slots := 0, locals := 0 } : Room).slots) := by
  refine MetFree.of_bodySF (plainFor_of_name pn_1) hisR ?_
  intro p e s m args below meth c s₁ Bd hml0 hP hK
  obtain ⟨rfl, hZ, hh⟩ := hP
  have hx := Bd.exec
  have hby := Bd.bytes
  have hml : c.maxLocals = 11 := hml0
  have hown : s.vm.findClass "com/example/biller/biller/files/PlainValue" = some m.cls := findClass_of_methodNamed Bd.named
  have hnm := (name_of_methodNamed Bd.named Bd.method).1
  have X0 : Stand p l e ({ frames := 0, cells := 0, slots := 0, locals := 0 } : Room) s m #[(.ref a1), (.ref a2), (.int p3), (.int p4)] below meth c s₁ [] 0 0 := Stand.of_body Bd
  have e0 : s₁.heap = h0 := by rw [← hh, Bd.state]; rfl
  have N0 := Fr.nil n0
  refine Go.done (Go.step (fun t k => castTop (ef_4_lo m a1 a2 p3 p4) k) ?_)
  have KK0 : Keep h0 h0 [] := Keep.refl _ _
  show Go p e below _ (s₁.setTop (mkF m 0 _ []))
  refine gI (q := 1) X0 hx (hb hby d4_0) rfl rfl ?_
  refine gI (q := 2) X0 hx (hb hby d4_1) rfl rfl ?_
  obtain ⟨v7, hv7⟩ : ∃ z : Int32, z = (if p3 < p4 then (if (g_t p3.toNatClampNeg) = (45 : Int32) then (1 : Int32) else (0 : Int32)) else (0 : Int32)) := ⟨_, rfl⟩
  have J2 : Go p e below (AtF p l e ({ frames := 0, cells := 0, slots := 0, locals := 0 } : Room) s m #[(.ref a1), (.ref a2), (.int p3), (.int p4)] below meth c n0 0 0 h0 (mkF m 18 #[.val (.ref a1), .val (.ref a2), .val (.int p3), .val (.int p4), .unset, .unset, .unset, .unset, .unset, .unset, .unset] [(.int v7)])) (s₁.setTop (mkF m 2 #[.val (.ref a1), .val (.ref a2), .val (.int p3), .val (.int p4), .unset, .unset, .unset, .unset, .unset, .unset, .unset] [(.int p4), (.int p3)])) := by
   by_cases hc5 : p3 < p4
   · refine Go.step (fun t k => XS.icmpNo X0.here hx rfl (hb hby d4_2) rfl (tlt hc5).2.1 k) ?_
     show Go p e below _ (s₁.setTop (mkF m 5 _ []))
     refine gA (q := 6) X0 hx (hb hby d4_5) rfl rfl rfl ?_
     refine gI (q := 7) X0 hx (hb hby d4_6) rfl rfl ?_
     refine Go.step (ldB X0 hx hZ e0 A_a2 (j := p3) ((nn_iff p3).mpr h3) (own_lt h3 hc5 hlen) (g := (mkF m 7 _ [(.int p3), (.ref a2)])) rfl rfl (hb hby d4_7)) ?_
     show Go p e below _ (s₁.setTop (mkF m 8 _ [(.int (g_t p3.toNatClampNeg))]))
     refine Go.step (fun t k => XS.bipush X0.here hx rfl (hb hby d4_8)  k) ?_
     show Go p e below _ (s₁.setTop (mkF m 10 _ [(.int (45 : Int32)), (.int (g_t p3.toNatClampNeg))]))
     by_cases hc6 : (g_t p3.toNatClampNeg) = (45 : Int32)
     · refine Go.step (fun t k => XS.icmpNo X0.here hx rfl (hb hby d4_10) rfl (teq hc6).2 k) ?_
       show Go p e below _ (s₁.setTop (mkF m 13 _ []))
       refine gC (q := 14) (v := 1) X0 hx (hb hby d4_13) rfl rfl ?_
       refine Go.step (fun t k => XS.goto X0.here hx rfl (pc0 := 14) (pc' := 18) rfl (hb hby d4_14) (by decide) (by decide) k) ?_
       show Go p e below _ (s₁.setTop (mkF m 18 _ [(.int (1 : Int32))]))
       exact Go.here ⟨_, _, by simp only [hv7, if_pos hc5, if_pos hc6], X0, N0, e0⟩
     · refine Go.step (fun t k => XS.icmpYes X0.here hx rfl (pc0 := 10) (pc' := 17) rfl (hb hby d4_10) rfl (feq hc6).2 (by decide) (by decide) k) ?_
       show Go p e below _ (s₁.setTop (mkF m 17 _ []))
       refine gC (q := 18) (v := 0) X0 hx (hb hby d4_17) rfl rfl ?_
       show Go p e below _ (s₁.setTop (mkF m 18 _ [(.int (0 : Int32))]))
       exact Go.here ⟨_, _, by simp only [hv7, if_pos hc5, if_neg hc6], X0, N0, e0⟩
   · refine Go.step (fun t k => XS.icmpYes X0.here hx rfl (pc0 := 2) (pc' := 17) rfl (hb hby d4_2) rfl (flt hc5).2.1 (by decide) (by decide) k) ?_
     show Go p e below _ (s₁.setTop (mkF m 17 _ []))
     refine gC (q := 18) (v := 0) X0 hx (hb hby d4_17) rfl rfl ?_
     show Go p e below _ (s₁.setTop (mkF m 18 _ [(.int (0 : Int32))]))
     exact Go.here ⟨_, _, by simp only [hv7, if_neg hc5], X0, N0, e0⟩
  obtain ⟨_, st8, T8, Lj8, rfl, X8, N8, e8⟩ := J2
  refine Go.trans st8 ?_
  show Go p e below _ (T8.setTop (mkF m 18 _ [(.int v7)]))
  refine Go.step (fun t k => XS.istore X8.here hx rfl (hb hby d4_18) rfl (l' := #[.val (.ref a1), .val (.ref a2), .val (.int p3), .val (.int p4), .val (.int v7), .unset, .unset, .unset, .unset, .unset, .unset]) rfl k) ?_
  show Go p e below _ (T8.setTop (mkF m 20 _ []))
  refine gJ (q := 22) X8 hx (hb hby d4_20) rfl rfl ?_
  obtain ⟨v10, hv10⟩ : ∃ z : Int32, z = (if v7 = (0 : Int32) then p3 else (p3 + (1 : Int32))) := ⟨_, rfl⟩
  have J22 : Go p e below (AtF p l e ({ frames := 0, cells := 0, slots := 0, locals := 0 } : Room) s m #[(.ref a1), (.ref a2), (.int p3), (.int p4)] below meth c n0 0 0 h0 (mkF m 32 #[.val (.ref a1), .val (.ref a2), .val (.int p3), .val (.int p4), .val (.int v7), .unset, .unset, .unset, .unset, .unset, .unset] [(.int v10)])) (T8.setTop (mkF m 22 #[.val (.ref a1), .val (.ref a2), .val (.int p3), .val (.int p4), .val (.int v7), .unset, .unset, .unset, .unset, .unset, .unset] [(.int v7)])) := by
   by_cases hc9 : v7 = (0 : Int32)
   · refine Go.step (fun t k => XS.ifYes X8.here hx rfl (pc0 := 22) (pc' := 31) rfl (hb hby d4_22) rfl ((if0 _ _).trans (teq hc9).1) (by decide) (by decide) k) ?_
     show Go p e below _ (T8.setTop (mkF m 31 _ []))
     refine gI (q := 32) X8 hx (hb hby d4_31) rfl rfl ?_
     show Go p e below _ (T8.setTop (mkF m 32 _ [(.int p3)]))
     exact Go.here ⟨_, _, by simp only [hv10, if_pos hc9], X8, N8, e8⟩
   · refine Go.step (fun t k => XS.ifNo X8.here hx rfl (hb hby d4_22) rfl ((if0 _ _).trans (feq hc9).1) k) ?_
     show Go p e below _ (T8.setTop (mkF m 25 _ []))
     refine gI (q := 26) X8 hx (hb hby d4_25) rfl rfl ?_
     refine gC (q := 27) (v := 1) X8 hx (hb hby d4_26) rfl rfl ?_
     refine Go.step (fun t k => XS.iadd X8.here hx rfl (hb hby d4_27) rfl k) ?_
     show Go p e below _ (T8.setTop (mkF m 28 _ [(.int (p3 + (1 : Int32)))]))
     refine Go.step (fun t k => XS.goto X8.here hx rfl (pc0 := 28) (pc' := 32) rfl (hb hby d4_28) (by decide) (by decide) k) ?_
     show Go p e below _ (T8.setTop (mkF m 32 _ [(.int (p3 + (1 : Int32)))]))
     exact Go.here ⟨_, _, by simp only [hv10, if_neg hc9], X8, N8, e8⟩
  obtain ⟨_, st11, T11, Lj11, rfl, X11, N11, e11⟩ := J22
  refine Go.trans st11 ?_
  show Go p e below _ (T11.setTop (mkF m 32 _ [(.int v10)]))
  refine Go.step (fun t k => XS.istore X11.here hx rfl (hb hby d4_32) rfl (l' := #[.val (.ref a1), .val (.ref a2), .val (.int p3), .val (.int p4), .val (.int v7), .val (.int v10), .unset, .unset, .unset, .unset, .unset]) rfl k) ?_
  show Go p e below _ (T11.setTop (mkF m 34 _ []))
  refine Go.step (fun t k => XS.lconst X11.here hx rfl (hb hby d4_34)  k) ?_
  show Go p e below _ (T11.setTop (mkF m 35 _ [(.long (0 : Int64))]))
  refine Go.step (fun t k => XS.lstore X11.here hx rfl (hb hby d4_35) rfl (l' := #[.val (.ref a1), .val (.ref a2), .val (.int p3), .val (.int p4), .val (.int v7), .val (.int v10), .val (.long (0 : Int64)), .second, .unset, .unset, .unset]) rfl k) ?_
  show Go p e below _ (T11.setTop (mkF m 37 _ []))
  refine gC (q := 38) (v := -1) X11 hx (hb hby d4_37) rfl rfl ?_
  refine Go.step (fun t k => XS.istore X11.here hx rfl (hb hby d4_38) rfl (l' := #[.val (.ref a1), .val (.ref a2), .val (.int p3), .val (.int p4), .val (.int v7), .val (.int v10), .val (.long (0 : Int64)), .second, .val (.int (-1 : Int32)), .unset, .unset]) rfl k) ?_
  show Go p e below _ (T11.setTop (mkF m 40 _ []))
  refine gJ (q := 42) X11 hx (hb hby d4_40) rfl rfl ?_
  refine Go.step (fun t k => XS.istore X11.here hx rfl (hb hby d4_42) rfl (l' := #[.val (.ref a1), .val (.ref a2), .val (.int p3), .val (.int p4), .val (.int v7), .val (.int v10), .val (.long (0 : Int64)), .second, .val (.int (-1 : Int32)), .val (.int v10), .unset]) rfl k) ?_
  show Go p e below _ (T11.setTop (mkF m 44 _ []))
  have LOOP44 : ∀ (mm : Nat) (ff : Nat) (ix : Int32) (vl : Int64) (pt : Int32) (sl10 : Slot) (hsl10 : One sl10) (Tl12 : State) (Ll12 : List Loc) (hmm : ff = mm) (hR : rd g_t p4 ff ix vl pt = (ei, ev, ep)) (hi : 0 ≤ ix.toInt) (hff : p4.toInt - ix.toInt ≤ ff) (Xl12 : Stand p l e ({ frames := 0, cells := 0, slots := 0, locals := 0 } : Room) s m #[(.ref a1), (.ref a2), (.int p3), (.int p4)] below meth c Tl12 Ll12 0 0) (Nl12 : Fr n0 Ll12) (el12 : Tl12.heap = h0), Go p e below (FinQ below s (QP (.int (-1 : Int32)) h0 n0) ({ frames := 0, cells := 0, slots := 0, locals := 0 } : Room).cells ({ frames := 0, cells := 0, slots := 0, locals := 0 } : Room).slots) (Tl12.setTop (mkF m 44 #[.val (.ref a1), .val (.ref a2), .val (.int p3), .val (.int p4), .val (.int v7), .val (.int v10), .val (.long vl), .second, .val (.int pt), .val (.int ix), sl10] [])) := by
    intro mm
    induction mm using Nat.strongRecOn with
    | _ mm ih =>
      intro ff ix vl pt sl10 hsl10 Tl12 Ll12 hmm hR hi hff Xl12 Nl12 el12
      show Go p e below _ (Tl12.setTop (mkF m 44 _ []))
      refine gJ (q := 46) Xl12 hx (hb hby d4_44) rfl rfl ?_
      refine gI (q := 47) Xl12 hx (hb hby d4_46) rfl rfl ?_
      by_cases hc13 : ix < p4
      · refine Go.step (fun t k => XS.icmpNo Xl12.here hx rfl (hb hby d4_47) rfl (tlt hc13).2.1 k) ?_
        show Go p e below _ (Tl12.setTop (mkF m 50 _ []))
        obtain ⟨fu, rfl⟩ : ∃ z, ff = z + 1 := ⟨ff - 1, by have := Int32.lt_iff_toInt_lt.mp hc13; omega⟩
        show Go p e below _ (Tl12.setTop (mkF m 50 _ []))
        refine gA (q := 51) Xl12 hx (hb hby d4_50) rfl rfl rfl ?_
        refine gJ (q := 53) Xl12 hx (hb hby d4_51) rfl rfl ?_
        refine Go.step (ldB Xl12 hx hZ el12 A_a2 (j := ix) ((nn_iff ix).mpr hi) (own_lt hi hc13 hlen) (g := (mkF m 53 _ [(.int ix), (.ref a2)])) rfl rfl (hb hby d4_53)) ?_
        show Go p e below _ (Tl12.setTop (mkF m 54 _ [(.int (g_t ix.toNatClampNeg))]))
        refine Go.step (fun t k => XS.bipush Xl12.here hx rfl (hb hby d4_54)  k) ?_
        show Go p e below _ (Tl12.setTop (mkF m 56 _ [(.int (48 : Int32)), (.int (g_t ix.toNatClampNeg))]))
        refine Go.step (fun t k => XS.isub Xl12.here hx rfl (hb hby d4_56) rfl k) ?_
        show Go p e below _ (Tl12.setTop (mkF m 57 _ [(.int ((g_t ix.toNatClampNeg) - (48 : Int32)))]))
        refine nameIt (fun zz : Int32 => Go p e below _ (Tl12.setTop (mkF m 57 #[.val (.ref a1), .val (.ref a2), .val (.int p3), .val (.int p4), .val (.int v7), .val (.int v10), .val (.long vl), .second, .val (.int pt), .val (.int ix), sl10] [(.int zz)]))) ((g_t ix.toNatClampNeg) - (48 : Int32)) ?_
        intro v14 hv14
        show Go p e below _ (Tl12.setTop (mkF m 57 _ [(.int v14)]))
        refine Go.step (fun t k => XS.istore Xl12.here hx rfl (hb hby d4_57) rfl (l' := #[.val (.ref a1), .val (.ref a2), .val (.int p3), .val (.int p4), .val (.int v7), .val (.int v10), .val (.long vl), .second, .val (.int pt), .val (.int ix), .val (.int v14)]) (by rcases hsl10 with rfl | ⟨w, rfl, hw⟩ <;> first | rfl | (cases w <;> first | rfl | (simp [Value.category] at hw))) k) ?_
        show Go p e below _ (Tl12.setTop (mkF m 59 _ []))
        refine gJ (q := 61) Xl12 hx (hb hby d4_59) rfl rfl ?_
        by_cases hc15 : v14 < (0 : Int32)
        · refine Go.step (fun t k => XS.ifYes Xl12.here hx rfl (pc0 := 61) (pc' := 86) rfl (hb hby d4_61) rfl ((if0 _ _).trans (tlt hc15).1) (by decide) (by decide) k) ?_
          show Go p e below _ (Tl12.setTop (mkF m 86 _ []))
          refine gA (q := 87) Xl12 hx (hb hby d4_86) rfl rfl rfl ?_
          refine gJ (q := 89) Xl12 hx (hb hby d4_87) rfl rfl ?_
          refine Go.step (ldB Xl12 hx hZ el12 A_a2 (j := ix) ((nn_iff ix).mpr hi) (own_lt hi hc13 hlen) (g := (mkF m 89 _ [(.int ix), (.ref a2)])) rfl rfl (hb hby d4_89)) ?_
          show Go p e below _ (Tl12.setTop (mkF m 90 _ [(.int (g_t ix.toNatClampNeg))]))
          refine Go.step (fun t k => XS.bipush Xl12.here hx rfl (hb hby d4_90)  k) ?_
          show Go p e below _ (Tl12.setTop (mkF m 92 _ [(.int (46 : Int32)), (.int (g_t ix.toNatClampNeg))]))
          by_cases hc16 : (g_t ix.toNatClampNeg) = (46 : Int32)
          · refine Go.step (fun t k => XS.icmpNo Xl12.here hx rfl (hb hby d4_92) rfl (teq hc16).2 k) ?_
            show Go p e below _ (Tl12.setTop (mkF m 95 _ []))
            refine gJ (q := 97) Xl12 hx (hb hby d4_95) rfl rfl ?_
            by_cases hc17 : pt < (0 : Int32)
            · refine Go.step (fun t k => XS.ifNo Xl12.here hx rfl (hb hby d4_97) rfl ((if0 _ _).trans (tlt hc17).2.1) k) ?_
              show Go p e below _ (Tl12.setTop (mkF m 100 _ []))
              refine gJ (q := 102) Xl12 hx (hb hby d4_100) rfl rfl ?_
              refine Go.step (fun t k => XS.istore Xl12.here hx rfl (hb hby d4_102) rfl (l' := #[.val (.ref a1), .val (.ref a2), .val (.int p3), .val (.int p4), .val (.int v7), .val (.int v10), .val (.long vl), .second, .val (.int ix), .val (.int ix), .val (.int v14)]) rfl k) ?_
              show Go p e below _ (Tl12.setTop (mkF m 104 _ []))
              refine Go.step (fun t k => XS.iinc Xl12.here hx rfl (hb hby d4_104) rfl (l' := #[.val (.ref a1), .val (.ref a2), .val (.int p3), .val (.int p4), .val (.int v7), .val (.int v10), .val (.long vl), .second, .val (.int ix), .val (.int (ix + (1 : Int32))), .val (.int v14)]) rfl k) ?_
              show Go p e below _ (Tl12.setTop (mkF m 107 _ []))
              refine Go.step (fun t k => XS.goto Xl12.here hx rfl (pc0 := 107) (pc' := 44) rfl (hb hby d4_107) (by decide) (by decide) k) ?_
              show Go p e below _ (Tl12.setTop (mkF m 44 _ []))
              show Go p e below _ (Tl12.setTop (mkF m 44 _ []))
              exact ih _ (by omega) fu (ix + (1 : Int32)) vl ix _ (One.val rfl) _ _ rfl (by have q := hR; rw [rd_dot fu hc13 hc16 hc17] at q; exact q) (by rw [own_i1 hc13]; omega) (by rw [own_i1 hc13]; omega) Xl12 Nl12 el12
            · refine Go.step (fun t k => XS.ifYes Xl12.here hx rfl (pc0 := 97) (pc' := 110) rfl (hb hby d4_97) rfl ((if0 _ _).trans (flt hc17).2.1) (by decide) (by decide) k) ?_
              show Go p e below _ (Tl12.setTop (mkF m 110 _ []))
              have hE := hR
              rw [rd_no _ (Or.inl (by rw [← hv14]; exact hc15)) (Or.inr hc17)] at hE
              have hE1 : ei = ix := (congrArg (fun z => z.1) hE).symm
              have hE2 : ev = vl := (congrArg (fun z => z.2.1) hE).symm
              have hE3 : ep = pt := (congrArg (fun z => z.2.2) hE).symm
              subst hE1 hE2 hE3
              show Go p e below _ (Tl12.setTop (mkF m 110 _ []))
              refine gJ (q := 112) Xl12 hx (hb hby d4_110) rfl rfl ?_
              refine gJ (q := 114) Xl12 hx (hb hby d4_112) rfl rfl ?_
              refine Go.step (fun t k => XS.isub Xl12.here hx rfl (hb hby d4_114) rfl k) ?_
              show Go p e below _ (Tl12.setTop (mkF m 115 _ [(.int (ei - v10))]))
              refine gJ (q := 117) Xl12 hx (hb hby d4_115) rfl rfl ?_
              obtain ⟨v19, hv19⟩ : ∃ z : Int32, z = (if ep < (0 : Int32) then (0 : Int32) else (1 : Int32)) := ⟨_, rfl⟩
              have J117 : Go p e below (AtF p l e ({ frames := 0, cells := 0, slots := 0, locals := 0 } : Room) s m #[(.ref a1), (.ref a2), (.int p3), (.int p4)] below meth c n0 0 0 h0 (mkF m 125 #[.val (.ref a1), .val (.ref a2), .val (.int p3), .val (.int p4), .val (.int v7), .val (.int v10), .val (.long ev), .second, .val (.int ep), .val (.int ei), .val (.int v14)] [(.int v19), (.int (ei - v10))])) (Tl12.setTop (mkF m 117 #[.val (.ref a1), .val (.ref a2), .val (.int p3), .val (.int p4), .val (.int v7), .val (.int v10), .val (.long ev), .second, .val (.int ep), .val (.int ei), .val (.int v14)] [(.int ep), (.int (ei - v10))])) := by
               by_cases hc18 : ep < (0 : Int32)
               · refine Go.step (fun t k => XS.ifNo Xl12.here hx rfl (hb hby d4_117) rfl ((if0 _ _).trans (tlt hc18).2.1) k) ?_
                 show Go p e below _ (Tl12.setTop (mkF m 120 _ [(.int (ei - v10))]))
                 refine gC (q := 121) (v := 0) Xl12 hx (hb hby d4_120) rfl rfl ?_
                 refine Go.step (fun t k => XS.goto Xl12.here hx rfl (pc0 := 121) (pc' := 125) rfl (hb hby d4_121) (by decide) (by decide) k) ?_
                 show Go p e below _ (Tl12.setTop (mkF m 125 _ [(.int (0 : Int32)), (.int (ei - v10))]))
                 exact Go.here ⟨_, _, by simp only [hv19, if_pos hc18], Xl12, Nl12, el12⟩
               · refine Go.step (fun t k => XS.ifYes Xl12.here hx rfl (pc0 := 117) (pc' := 124) rfl (hb hby d4_117) rfl ((if0 _ _).trans (flt hc18).2.1) (by decide) (by decide) k) ?_
                 show Go p e below _ (Tl12.setTop (mkF m 124 _ [(.int (ei - v10))]))
                 refine gC (q := 125) (v := 1) Xl12 hx (hb hby d4_124) rfl rfl ?_
                 show Go p e below _ (Tl12.setTop (mkF m 125 _ [(.int (1 : Int32)), (.int (ei - v10))]))
                 exact Go.here ⟨_, _, by simp only [hv19, if_neg hc18], Xl12, Nl12, el12⟩
              obtain ⟨_, st20, T20, Lj20, rfl, X20, N20, e20⟩ := J117
              refine Go.trans st20 ?_
              show Go p e below _ (T20.setTop (mkF m 125 _ [(.int v19), (.int (ei - v10))]))
              refine Go.step (fun t k => XS.isub X20.here hx rfl (hb hby d4_125) rfl k) ?_
              show Go p e below _ (T20.setTop (mkF m 126 _ [(.int ((ei - v10) - v19))]))
              refine nameIt (fun zz : Int32 => Go p e below _ (T20.setTop (mkF m 126 #[.val (.ref a1), .val (.ref a2), .val (.int p3), .val (.int p4), .val (.int v7), .val (.int v10), .val (.long ev), .second, .val (.int ep), .val (.int ei), .val (.int v14)] [(.int zz)]))) ((ei - v10) - v19) ?_
              intro v21 hv21
              show Go p e below _ (T20.setTop (mkF m 126 _ [(.int v21)]))
              refine Go.step (fun t k => XS.istore X20.here hx rfl (hb hby d4_126) rfl (l' := #[.val (.ref a1), .val (.ref a2), .val (.int p3), .val (.int p4), .val (.int v7), .val (.int v10), .val (.long ev), .second, .val (.int ep), .val (.int ei), .val (.int v21)]) rfl k) ?_
              show Go p e below _ (T20.setTop (mkF m 128 _ []))
              refine gJ (q := 130) X20 hx (hb hby d4_128) rfl rfl ?_
              refine gC (q := 131) (v := 1) X20 hx (hb hby d4_130) rfl rfl ?_
              refine Go.step (fun t k => XS.icmpYes X20.here hx rfl (pc0 := 131) (pc' := 141) rfl (hb hby d4_131) rfl (tlt (by subst_vars; exact hd1 : v21 < (1 : Int32))).1 (by decide) (by decide) k) ?_
              show Go p e below _ (T20.setTop (mkF m 141 _ []))
              refine gC (q := 142) (v := -1) X20 hx (hb hby d4_141) rfl rfl ?_
              subst hv21
              subst hv19
              subst hv14
              subst hv10
              subst hv7
              exact retGI X20 hx Bd.notSynchronized Bd.returns (hb hby d4_142) ⟨rfl, N20, e20⟩ (by decide) (by decide)
          · refine Go.step (fun t k => XS.icmpYes Xl12.here hx rfl (pc0 := 92) (pc' := 110) rfl (hb hby d4_92) rfl (feq hc16).2 (by decide) (by decide) k) ?_
            show Go p e below _ (Tl12.setTop (mkF m 110 _ []))
            have hE := hR
            rw [rd_no _ (Or.inl (by rw [← hv14]; exact hc15)) (Or.inl hc16)] at hE
            have hE1 : ei = ix := (congrArg (fun z => z.1) hE).symm
            have hE2 : ev = vl := (congrArg (fun z => z.2.1) hE).symm
            have hE3 : ep = pt := (congrArg (fun z => z.2.2) hE).symm
            subst hE1 hE2 hE3
            show Go p e below _ (Tl12.setTop (mkF m 110 _ []))
            refine gJ (q := 112) Xl12 hx (hb hby d4_110) rfl rfl ?_
            refine gJ (q := 114) Xl12 hx (hb hby d4_112) rfl rfl ?_
            refine Go.step (fun t k => XS.isub Xl12.here hx rfl (hb hby d4_114) rfl k) ?_
            show Go p e below _ (Tl12.setTop (mkF m 115 _ [(.int (ei - v10))]))
            refine gJ (q := 117) Xl12 hx (hb hby d4_115) rfl rfl ?_
            obtain ⟨v23, hv23⟩ : ∃ z : Int32, z = (if ep < (0 : Int32) then (0 : Int32) else (1 : Int32)) := ⟨_, rfl⟩
            have J117 : Go p e below (AtF p l e ({ frames := 0, cells := 0, slots := 0, locals := 0 } : Room) s m #[(.ref a1), (.ref a2), (.int p3), (.int p4)] below meth c n0 0 0 h0 (mkF m 125 #[.val (.ref a1), .val (.ref a2), .val (.int p3), .val (.int p4), .val (.int v7), .val (.int v10), .val (.long ev), .second, .val (.int ep), .val (.int ei), .val (.int v14)] [(.int v23), (.int (ei - v10))])) (Tl12.setTop (mkF m 117 #[.val (.ref a1), .val (.ref a2), .val (.int p3), .val (.int p4), .val (.int v7), .val (.int v10), .val (.long ev), .second, .val (.int ep), .val (.int ei), .val (.int v14)] [(.int ep), (.int (ei - v10))])) := by
             by_cases hc22 : ep < (0 : Int32)
             · refine Go.step (fun t k => XS.ifNo Xl12.here hx rfl (hb hby d4_117) rfl ((if0 _ _).trans (tlt hc22).2.1) k) ?_
               show Go p e below _ (Tl12.setTop (mkF m 120 _ [(.int (ei - v10))]))
               refine gC (q := 121) (v := 0) Xl12 hx (hb hby d4_120) rfl rfl ?_
               refine Go.step (fun t k => XS.goto Xl12.here hx rfl (pc0 := 121) (pc' := 125) rfl (hb hby d4_121) (by decide) (by decide) k) ?_
               show Go p e below _ (Tl12.setTop (mkF m 125 _ [(.int (0 : Int32)), (.int (ei - v10))]))
               exact Go.here ⟨_, _, by simp only [hv23, if_pos hc22], Xl12, Nl12, el12⟩
             · refine Go.step (fun t k => XS.ifYes Xl12.here hx rfl (pc0 := 117) (pc' := 124) rfl (hb hby d4_117) rfl ((if0 _ _).trans (flt hc22).2.1) (by decide) (by decide) k) ?_
               show Go p e below _ (Tl12.setTop (mkF m 124 _ [(.int (ei - v10))]))
               refine gC (q := 125) (v := 1) Xl12 hx (hb hby d4_124) rfl rfl ?_
               show Go p e below _ (Tl12.setTop (mkF m 125 _ [(.int (1 : Int32)), (.int (ei - v10))]))
               exact Go.here ⟨_, _, by simp only [hv23, if_neg hc22], Xl12, Nl12, el12⟩
            obtain ⟨_, st24, T24, Lj24, rfl, X24, N24, e24⟩ := J117
            refine Go.trans st24 ?_
            show Go p e below _ (T24.setTop (mkF m 125 _ [(.int v23), (.int (ei - v10))]))
            refine Go.step (fun t k => XS.isub X24.here hx rfl (hb hby d4_125) rfl k) ?_
            show Go p e below _ (T24.setTop (mkF m 126 _ [(.int ((ei - v10) - v23))]))
            refine nameIt (fun zz : Int32 => Go p e below _ (T24.setTop (mkF m 126 #[.val (.ref a1), .val (.ref a2), .val (.int p3), .val (.int p4), .val (.int v7), .val (.int v10), .val (.long ev), .second, .val (.int ep), .val (.int ei), .val (.int v14)] [(.int zz)]))) ((ei - v10) - v23) ?_
            intro v25 hv25
            show Go p e below _ (T24.setTop (mkF m 126 _ [(.int v25)]))
            refine Go.step (fun t k => XS.istore X24.here hx rfl (hb hby d4_126) rfl (l' := #[.val (.ref a1), .val (.ref a2), .val (.int p3), .val (.int p4), .val (.int v7), .val (.int v10), .val (.long ev), .second, .val (.int ep), .val (.int ei), .val (.int v25)]) rfl k) ?_
            show Go p e below _ (T24.setTop (mkF m 128 _ []))
            refine gJ (q := 130) X24 hx (hb hby d4_128) rfl rfl ?_
            refine gC (q := 131) (v := 1) X24 hx (hb hby d4_130) rfl rfl ?_
            refine Go.step (fun t k => XS.icmpYes X24.here hx rfl (pc0 := 131) (pc' := 141) rfl (hb hby d4_131) rfl (tlt (by subst_vars; exact hd1 : v25 < (1 : Int32))).1 (by decide) (by decide) k) ?_
            show Go p e below _ (T24.setTop (mkF m 141 _ []))
            refine gC (q := 142) (v := -1) X24 hx (hb hby d4_141) rfl rfl ?_
            subst hv25
            subst hv23
            subst hv14
            subst hv10
            subst hv7
            exact retGI X24 hx Bd.notSynchronized Bd.returns (hb hby d4_142) ⟨rfl, N24, e24⟩ (by decide) (by decide)
        · refine Go.step (fun t k => XS.ifNo Xl12.here hx rfl (hb hby d4_61) rfl ((if0 _ _).trans (flt hc15).1) k) ?_
          show Go p e below _ (Tl12.setTop (mkF m 64 _ []))
          refine gJ (q := 66) Xl12 hx (hb hby d4_64) rfl rfl ?_
          refine Go.step (fun t k => XS.bipush Xl12.here hx rfl (hb hby d4_66)  k) ?_
          show Go p e below _ (Tl12.setTop (mkF m 68 _ [(.int (9 : Int32)), (.int v14)]))
          by_cases hc26 : (9 : Int32) < v14
          · refine Go.step (fun t k => XS.icmpYes Xl12.here hx rfl (pc0 := 68) (pc' := 86) rfl (hb hby d4_68) rfl (tlt hc26).2.2.1 (by decide) (by decide) k) ?_
            show Go p e below _ (Tl12.setTop (mkF m 86 _ []))
            refine gA (q := 87) Xl12 hx (hb hby d4_86) rfl rfl rfl ?_
            refine gJ (q := 89) Xl12 hx (hb hby d4_87) rfl rfl ?_
            refine Go.step (ldB Xl12 hx hZ el12 A_a2 (j := ix) ((nn_iff ix).mpr hi) (own_lt hi hc13 hlen) (g := (mkF m 89 _ [(.int ix), (.ref a2)])) rfl rfl (hb hby d4_89)) ?_
            show Go p e below _ (Tl12.setTop (mkF m 90 _ [(.int (g_t ix.toNatClampNeg))]))
            refine Go.step (fun t k => XS.bipush Xl12.here hx rfl (hb hby d4_90)  k) ?_
            show Go p e below _ (Tl12.setTop (mkF m 92 _ [(.int (46 : Int32)), (.int (g_t ix.toNatClampNeg))]))
            by_cases hc27 : (g_t ix.toNatClampNeg) = (46 : Int32)
            · refine Go.step (fun t k => XS.icmpNo Xl12.here hx rfl (hb hby d4_92) rfl (teq hc27).2 k) ?_
              show Go p e below _ (Tl12.setTop (mkF m 95 _ []))
              refine gJ (q := 97) Xl12 hx (hb hby d4_95) rfl rfl ?_
              by_cases hc28 : pt < (0 : Int32)
              · refine Go.step (fun t k => XS.ifNo Xl12.here hx rfl (hb hby d4_97) rfl ((if0 _ _).trans (tlt hc28).2.1) k) ?_
                show Go p e below _ (Tl12.setTop (mkF m 100 _ []))
                refine gJ (q := 102) Xl12 hx (hb hby d4_100) rfl rfl ?_
                refine Go.step (fun t k => XS.istore Xl12.here hx rfl (hb hby d4_102) rfl (l' := #[.val (.ref a1), .val (.ref a2), .val (.int p3), .val (.int p4), .val (.int v7), .val (.int v10), .val (.long vl), .second, .val (.int ix), .val (.int ix), .val (.int v14)]) rfl k) ?_
                show Go p e below _ (Tl12.setTop (mkF m 104 _ []))
                refine Go.step (fun t k => XS.iinc Xl12.here hx rfl (hb hby d4_104) rfl (l' := #[.val (.ref a1), .val (.ref a2), .val (.int p3), .val (.int p4), .val (.int v7), .val (.int v10), .val (.long vl), .second, .val (.int ix), .val (.int (ix + (1 : Int32))), .val (.int v14)]) rfl k) ?_
                show Go p e below _ (Tl12.setTop (mkF m 107 _ []))
                refine Go.step (fun t k => XS.goto Xl12.here hx rfl (pc0 := 107) (pc' := 44) rfl (hb hby d4_107) (by decide) (by decide) k) ?_
                show Go p e below _ (Tl12.setTop (mkF m 44 _ []))
                show Go p e below _ (Tl12.setTop (mkF m 44 _ []))
                exact ih _ (by omega) fu (ix + (1 : Int32)) vl ix _ (One.val rfl) _ _ rfl (by have q := hR; rw [rd_dot fu hc13 hc27 hc28] at q; exact q) (by rw [own_i1 hc13]; omega) (by rw [own_i1 hc13]; omega) Xl12 Nl12 el12
              · refine Go.step (fun t k => XS.ifYes Xl12.here hx rfl (pc0 := 97) (pc' := 110) rfl (hb hby d4_97) rfl ((if0 _ _).trans (flt hc28).2.1) (by decide) (by decide) k) ?_
                show Go p e below _ (Tl12.setTop (mkF m 110 _ []))
                have hE := hR
                rw [rd_no _ (Or.inr (by rw [← hv14]; exact hc26)) (Or.inr hc28)] at hE
                have hE1 : ei = ix := (congrArg (fun z => z.1) hE).symm
                have hE2 : ev = vl := (congrArg (fun z => z.2.1) hE).symm
                have hE3 : ep = pt := (congrArg (fun z => z.2.2) hE).symm
                subst hE1 hE2 hE3
                show Go p e below _ (Tl12.setTop (mkF m 110 _ []))
                refine gJ (q := 112) Xl12 hx (hb hby d4_110) rfl rfl ?_
                refine gJ (q := 114) Xl12 hx (hb hby d4_112) rfl rfl ?_
                refine Go.step (fun t k => XS.isub Xl12.here hx rfl (hb hby d4_114) rfl k) ?_
                show Go p e below _ (Tl12.setTop (mkF m 115 _ [(.int (ei - v10))]))
                refine gJ (q := 117) Xl12 hx (hb hby d4_115) rfl rfl ?_
                obtain ⟨v30, hv30⟩ : ∃ z : Int32, z = (if ep < (0 : Int32) then (0 : Int32) else (1 : Int32)) := ⟨_, rfl⟩
                have J117 : Go p e below (AtF p l e ({ frames := 0, cells := 0, slots := 0, locals := 0 } : Room) s m #[(.ref a1), (.ref a2), (.int p3), (.int p4)] below meth c n0 0 0 h0 (mkF m 125 #[.val (.ref a1), .val (.ref a2), .val (.int p3), .val (.int p4), .val (.int v7), .val (.int v10), .val (.long ev), .second, .val (.int ep), .val (.int ei), .val (.int v14)] [(.int v30), (.int (ei - v10))])) (Tl12.setTop (mkF m 117 #[.val (.ref a1), .val (.ref a2), .val (.int p3), .val (.int p4), .val (.int v7), .val (.int v10), .val (.long ev), .second, .val (.int ep), .val (.int ei), .val (.int v14)] [(.int ep), (.int (ei - v10))])) := by
                 by_cases hc29 : ep < (0 : Int32)
                 · refine Go.step (fun t k => XS.ifNo Xl12.here hx rfl (hb hby d4_117) rfl ((if0 _ _).trans (tlt hc29).2.1) k) ?_
                   show Go p e below _ (Tl12.setTop (mkF m 120 _ [(.int (ei - v10))]))
                   refine gC (q := 121) (v := 0) Xl12 hx (hb hby d4_120) rfl rfl ?_
                   refine Go.step (fun t k => XS.goto Xl12.here hx rfl (pc0 := 121) (pc' := 125) rfl (hb hby d4_121) (by decide) (by decide) k) ?_
                   show Go p e below _ (Tl12.setTop (mkF m 125 _ [(.int (0 : Int32)), (.int (ei - v10))]))
                   exact Go.here ⟨_, _, by simp only [hv30, if_pos hc29], Xl12, Nl12, el12⟩
                 · refine Go.step (fun t k => XS.ifYes Xl12.here hx rfl (pc0 := 117) (pc' := 124) rfl (hb hby d4_117) rfl ((if0 _ _).trans (flt hc29).2.1) (by decide) (by decide) k) ?_
                   show Go p e below _ (Tl12.setTop (mkF m 124 _ [(.int (ei - v10))]))
                   refine gC (q := 125) (v := 1) Xl12 hx (hb hby d4_124) rfl rfl ?_
                   show Go p e below _ (Tl12.setTop (mkF m 125 _ [(.int (1 : Int32)), (.int (ei - v10))]))
                   exact Go.here ⟨_, _, by simp only [hv30, if_neg hc29], Xl12, Nl12, el12⟩
                obtain ⟨_, st31, T31, Lj31, rfl, X31, N31, e31⟩ := J117
                refine Go.trans st31 ?_
                show Go p e below _ (T31.setTop (mkF m 125 _ [(.int v30), (.int (ei - v10))]))
                refine Go.step (fun t k => XS.isub X31.here hx rfl (hb hby d4_125) rfl k) ?_
                show Go p e below _ (T31.setTop (mkF m 126 _ [(.int ((ei - v10) - v30))]))
                refine nameIt (fun zz : Int32 => Go p e below _ (T31.setTop (mkF m 126 #[.val (.ref a1), .val (.ref a2), .val (.int p3), .val (.int p4), .val (.int v7), .val (.int v10), .val (.long ev), .second, .val (.int ep), .val (.int ei), .val (.int v14)] [(.int zz)]))) ((ei - v10) - v30) ?_
                intro v32 hv32
                show Go p e below _ (T31.setTop (mkF m 126 _ [(.int v32)]))
                refine Go.step (fun t k => XS.istore X31.here hx rfl (hb hby d4_126) rfl (l' := #[.val (.ref a1), .val (.ref a2), .val (.int p3), .val (.int p4), .val (.int v7), .val (.int v10), .val (.long ev), .second, .val (.int ep), .val (.int ei), .val (.int v32)]) rfl k) ?_
                show Go p e below _ (T31.setTop (mkF m 128 _ []))
                refine gJ (q := 130) X31 hx (hb hby d4_128) rfl rfl ?_
                refine gC (q := 131) (v := 1) X31 hx (hb hby d4_130) rfl rfl ?_
                refine Go.step (fun t k => XS.icmpYes X31.here hx rfl (pc0 := 131) (pc' := 141) rfl (hb hby d4_131) rfl (tlt (by subst_vars; exact hd1 : v32 < (1 : Int32))).1 (by decide) (by decide) k) ?_
                show Go p e below _ (T31.setTop (mkF m 141 _ []))
                refine gC (q := 142) (v := -1) X31 hx (hb hby d4_141) rfl rfl ?_
                subst hv32
                subst hv30
                subst hv14
                subst hv10
                subst hv7
                exact retGI X31 hx Bd.notSynchronized Bd.returns (hb hby d4_142) ⟨rfl, N31, e31⟩ (by decide) (by decide)
            · refine Go.step (fun t k => XS.icmpYes Xl12.here hx rfl (pc0 := 92) (pc' := 110) rfl (hb hby d4_92) rfl (feq hc27).2 (by decide) (by decide) k) ?_
              show Go p e below _ (Tl12.setTop (mkF m 110 _ []))
              have hE := hR
              rw [rd_no _ (Or.inr (by rw [← hv14]; exact hc26)) (Or.inl hc27)] at hE
              have hE1 : ei = ix := (congrArg (fun z => z.1) hE).symm
              have hE2 : ev = vl := (congrArg (fun z => z.2.1) hE).symm
              have hE3 : ep = pt := (congrArg (fun z => z.2.2) hE).symm
              subst hE1 hE2 hE3
              show Go p e below _ (Tl12.setTop (mkF m 110 _ []))
              refine gJ (q := 112) Xl12 hx (hb hby d4_110) rfl rfl ?_
              refine gJ (q := 114) Xl12 hx (hb hby d4_112) rfl rfl ?_
              refine Go.step (fun t k => XS.isub Xl12.here hx rfl (hb hby d4_114) rfl k) ?_
              show Go p e below _ (Tl12.setTop (mkF m 115 _ [(.int (ei - v10))]))
              refine gJ (q := 117) Xl12 hx (hb hby d4_115) rfl rfl ?_
              obtain ⟨v34, hv34⟩ : ∃ z : Int32, z = (if ep < (0 : Int32) then (0 : Int32) else (1 : Int32)) := ⟨_, rfl⟩
              have J117 : Go p e below (AtF p l e ({ frames := 0, cells := 0, slots := 0, locals := 0 } : Room) s m #[(.ref a1), (.ref a2), (.int p3), (.int p4)] below meth c n0 0 0 h0 (mkF m 125 #[.val (.ref a1), .val (.ref a2), .val (.int p3), .val (.int p4), .val (.int v7), .val (.int v10), .val (.long ev), .second, .val (.int ep), .val (.int ei), .val (.int v14)] [(.int v34), (.int (ei - v10))])) (Tl12.setTop (mkF m 117 #[.val (.ref a1), .val (.ref a2), .val (.int p3), .val (.int p4), .val (.int v7), .val (.int v10), .val (.long ev), .second, .val (.int ep), .val (.int ei), .val (.int v14)] [(.int ep), (.int (ei - v10))])) := by
               by_cases hc33 : ep < (0 : Int32)
               · refine Go.step (fun t k => XS.ifNo Xl12.here hx rfl (hb hby d4_117) rfl ((if0 _ _).trans (tlt hc33).2.1) k) ?_
                 show Go p e below _ (Tl12.setTop (mkF m 120 _ [(.int (ei - v10))]))
                 refine gC (q := 121) (v := 0) Xl12 hx (hb hby d4_120) rfl rfl ?_
                 refine Go.step (fun t k => XS.goto Xl12.here hx rfl (pc0 := 121) (pc' := 125) rfl (hb hby d4_121) (by decide) (by decide) k) ?_
                 show Go p e below _ (Tl12.setTop (mkF m 125 _ [(.int (0 : Int32)), (.int (ei - v10))]))
                 exact Go.here ⟨_, _, by simp only [hv34, if_pos hc33], Xl12, Nl12, el12⟩
               · refine Go.step (fun t k => XS.ifYes Xl12.here hx rfl (pc0 := 117) (pc' := 124) rfl (hb hby d4_117) rfl ((if0 _ _).trans (flt hc33).2.1) (by decide) (by decide) k) ?_
                 show Go p e below _ (Tl12.setTop (mkF m 124 _ [(.int (ei - v10))]))
                 refine gC (q := 125) (v := 1) Xl12 hx (hb hby d4_124) rfl rfl ?_
                 show Go p e below _ (Tl12.setTop (mkF m 125 _ [(.int (1 : Int32)), (.int (ei - v10))]))
                 exact Go.here ⟨_, _, by simp only [hv34, if_neg hc33], Xl12, Nl12, el12⟩
              obtain ⟨_, st35, T35, Lj35, rfl, X35, N35, e35⟩ := J117
              refine Go.trans st35 ?_
              show Go p e below _ (T35.setTop (mkF m 125 _ [(.int v34), (.int (ei - v10))]))
              refine Go.step (fun t k => XS.isub X35.here hx rfl (hb hby d4_125) rfl k) ?_
              show Go p e below _ (T35.setTop (mkF m 126 _ [(.int ((ei - v10) - v34))]))
              refine nameIt (fun zz : Int32 => Go p e below _ (T35.setTop (mkF m 126 #[.val (.ref a1), .val (.ref a2), .val (.int p3), .val (.int p4), .val (.int v7), .val (.int v10), .val (.long ev), .second, .val (.int ep), .val (.int ei), .val (.int v14)] [(.int zz)]))) ((ei - v10) - v34) ?_
              intro v36 hv36
              show Go p e below _ (T35.setTop (mkF m 126 _ [(.int v36)]))
              refine Go.step (fun t k => XS.istore X35.here hx rfl (hb hby d4_126) rfl (l' := #[.val (.ref a1), .val (.ref a2), .val (.int p3), .val (.int p4), .val (.int v7), .val (.int v10), .val (.long ev), .second, .val (.int ep), .val (.int ei), .val (.int v36)]) rfl k) ?_
              show Go p e below _ (T35.setTop (mkF m 128 _ []))
              refine gJ (q := 130) X35 hx (hb hby d4_128) rfl rfl ?_
              refine gC (q := 131) (v := 1) X35 hx (hb hby d4_130) rfl rfl ?_
              refine Go.step (fun t k => XS.icmpYes X35.here hx rfl (pc0 := 131) (pc' := 141) rfl (hb hby d4_131) rfl (tlt (by subst_vars; exact hd1 : v36 < (1 : Int32))).1 (by decide) (by decide) k) ?_
              show Go p e below _ (T35.setTop (mkF m 141 _ []))
              refine gC (q := 142) (v := -1) X35 hx (hb hby d4_141) rfl rfl ?_
              subst hv36
              subst hv34
              subst hv14
              subst hv10
              subst hv7
              exact retGI X35 hx Bd.notSynchronized Bd.returns (hb hby d4_142) ⟨rfl, N35, e35⟩ (by decide) (by decide)
          · refine Go.step (fun t k => XS.icmpNo Xl12.here hx rfl (hb hby d4_68) rfl (flt hc26).2.2.1 k) ?_
            show Go p e below _ (Tl12.setTop (mkF m 71 _ []))
            refine Go.step (fun t k => XS.lload Xl12.here hx rfl (hb hby d4_71) rfl k) ?_
            show Go p e below _ (Tl12.setTop (mkF m 73 _ [(.long vl)]))
            refine Go.step (Xl12.ldc2Long hx hown (mvT hZ (hw _ (List.mem_of_getElem? (i := 40) rfl))) (g := (mkF m 73 #[.val (.ref a1), .val (.ref a2), .val (.int p3), .val (.int p4), .val (.int v7), .val (.int v10), .val (.long vl), .second, .val (.int pt), .val (.int ix), .val (.int v14)] [(.long vl)])) rfl (hb hby d4_73)) ?_
            show Go p e below _ (Tl12.setTop (mkF m 76 _ [(.long (10 : Int64)), (.long vl)]))
            refine Go.step (fun t k => XS.lmul Xl12.here hx rfl (hb hby d4_76) rfl k) ?_
            show Go p e below _ (Tl12.setTop (mkF m 77 _ [(.long (vl * (10 : Int64)))]))
            refine gJ (q := 79) Xl12 hx (hb hby d4_77) rfl rfl ?_
            refine Go.step (fun t k => XS.i2l Xl12.here hx rfl (hb hby d4_79) rfl k) ?_
            show Go p e below _ (Tl12.setTop (mkF m 80 _ [(.long (v14.toInt64)), (.long (vl * (10 : Int64)))]))
            refine Go.step (fun t k => XS.ladd Xl12.here hx rfl (hb hby d4_80) rfl k) ?_
            show Go p e below _ (Tl12.setTop (mkF m 81 _ [(.long ((vl * (10 : Int64)) + (v14.toInt64)))]))
            refine nameIt (fun zz : Int64 => Go p e below _ (Tl12.setTop (mkF m 81 #[.val (.ref a1), .val (.ref a2), .val (.int p3), .val (.int p4), .val (.int v7), .val (.int v10), .val (.long vl), .second, .val (.int pt), .val (.int ix), .val (.int v14)] [(.long zz)]))) ((vl * (10 : Int64)) + (v14.toInt64)) ?_
            intro v37 hv37
            show Go p e below _ (Tl12.setTop (mkF m 81 _ [(.long v37)]))
            refine Go.step (fun t k => XS.lstore Xl12.here hx rfl (hb hby d4_81) rfl (l' := #[.val (.ref a1), .val (.ref a2), .val (.int p3), .val (.int p4), .val (.int v7), .val (.int v10), .val (.long v37), .second, .val (.int pt), .val (.int ix), .val (.int v14)]) rfl k) ?_
            show Go p e below _ (Tl12.setTop (mkF m 83 _ []))
            refine Go.step (fun t k => XS.goto Xl12.here hx rfl (pc0 := 83) (pc' := 104) rfl (hb hby d4_83) (by decide) (by decide) k) ?_
            show Go p e below _ (Tl12.setTop (mkF m 104 _ []))
            refine Go.step (fun t k => XS.iinc Xl12.here hx rfl (hb hby d4_104) rfl (l' := #[.val (.ref a1), .val (.ref a2), .val (.int p3), .val (.int p4), .val (.int v7), .val (.int v10), .val (.long v37), .second, .val (.int pt), .val (.int (ix + (1 : Int32))), .val (.int v14)]) rfl k) ?_
            show Go p e below _ (Tl12.setTop (mkF m 107 _ []))
            refine Go.step (fun t k => XS.goto Xl12.here hx rfl (pc0 := 107) (pc' := 44) rfl (hb hby d4_107) (by decide) (by decide) k) ?_
            show Go p e below _ (Tl12.setTop (mkF m 44 _ []))
            show Go p e below _ (Tl12.setTop (mkF m 44 _ []))
            exact ih _ (by omega) fu (ix + (1 : Int32)) v37 pt _ (One.val rfl) _ _ rfl (by rw [hv37, hv14]; have q := hR; rw [rd_dig fu hc13 (by rw [← hv14]; exact hc15) (by rw [← hv14]; exact hc26)] at q; exact q) (by rw [own_i1 hc13]; omega) (by rw [own_i1 hc13]; omega) Xl12 Nl12 el12
      · refine Go.step (fun t k => XS.icmpYes Xl12.here hx rfl (pc0 := 47) (pc' := 110) rfl (hb hby d4_47) rfl (flt hc13).2.1 (by decide) (by decide) k) ?_
        show Go p e below _ (Tl12.setTop (mkF m 110 _ []))
        have hE := hR
        rw [rd_end _ hc13] at hE
        have hE1 : ei = ix := (congrArg (fun z => z.1) hE).symm
        have hE2 : ev = vl := (congrArg (fun z => z.2.1) hE).symm
        have hE3 : ep = pt := (congrArg (fun z => z.2.2) hE).symm
        subst hE1 hE2 hE3
        show Go p e below _ (Tl12.setTop (mkF m 110 _ []))
        refine gJ (q := 112) Xl12 hx (hb hby d4_110) rfl rfl ?_
        refine gJ (q := 114) Xl12 hx (hb hby d4_112) rfl rfl ?_
        refine Go.step (fun t k => XS.isub Xl12.here hx rfl (hb hby d4_114) rfl k) ?_
        show Go p e below _ (Tl12.setTop (mkF m 115 _ [(.int (ei - v10))]))
        refine gJ (q := 117) Xl12 hx (hb hby d4_115) rfl rfl ?_
        obtain ⟨v39, hv39⟩ : ∃ z : Int32, z = (if ep < (0 : Int32) then (0 : Int32) else (1 : Int32)) := ⟨_, rfl⟩
        have J117 : Go p e below (AtF p l e ({ frames := 0, cells := 0, slots := 0, locals := 0 } : Room) s m #[(.ref a1), (.ref a2), (.int p3), (.int p4)] below meth c n0 0 0 h0 (mkF m 125 #[.val (.ref a1), .val (.ref a2), .val (.int p3), .val (.int p4), .val (.int v7), .val (.int v10), .val (.long ev), .second, .val (.int ep), .val (.int ei), sl10] [(.int v39), (.int (ei - v10))])) (Tl12.setTop (mkF m 117 #[.val (.ref a1), .val (.ref a2), .val (.int p3), .val (.int p4), .val (.int v7), .val (.int v10), .val (.long ev), .second, .val (.int ep), .val (.int ei), sl10] [(.int ep), (.int (ei - v10))])) := by
         by_cases hc38 : ep < (0 : Int32)
         · refine Go.step (fun t k => XS.ifNo Xl12.here hx rfl (hb hby d4_117) rfl ((if0 _ _).trans (tlt hc38).2.1) k) ?_
           show Go p e below _ (Tl12.setTop (mkF m 120 _ [(.int (ei - v10))]))
           refine gC (q := 121) (v := 0) Xl12 hx (hb hby d4_120) rfl rfl ?_
           refine Go.step (fun t k => XS.goto Xl12.here hx rfl (pc0 := 121) (pc' := 125) rfl (hb hby d4_121) (by decide) (by decide) k) ?_
           show Go p e below _ (Tl12.setTop (mkF m 125 _ [(.int (0 : Int32)), (.int (ei - v10))]))
           exact Go.here ⟨_, _, by simp only [hv39, if_pos hc38], Xl12, Nl12, el12⟩
         · refine Go.step (fun t k => XS.ifYes Xl12.here hx rfl (pc0 := 117) (pc' := 124) rfl (hb hby d4_117) rfl ((if0 _ _).trans (flt hc38).2.1) (by decide) (by decide) k) ?_
           show Go p e below _ (Tl12.setTop (mkF m 124 _ [(.int (ei - v10))]))
           refine gC (q := 125) (v := 1) Xl12 hx (hb hby d4_124) rfl rfl ?_
           show Go p e below _ (Tl12.setTop (mkF m 125 _ [(.int (1 : Int32)), (.int (ei - v10))]))
           exact Go.here ⟨_, _, by simp only [hv39, if_neg hc38], Xl12, Nl12, el12⟩
        obtain ⟨_, st40, T40, Lj40, rfl, X40, N40, e40⟩ := J117
        refine Go.trans st40 ?_
        show Go p e below _ (T40.setTop (mkF m 125 _ [(.int v39), (.int (ei - v10))]))
        refine Go.step (fun t k => XS.isub X40.here hx rfl (hb hby d4_125) rfl k) ?_
        show Go p e below _ (T40.setTop (mkF m 126 _ [(.int ((ei - v10) - v39))]))
        refine nameIt (fun zz : Int32 => Go p e below _ (T40.setTop (mkF m 126 #[.val (.ref a1), .val (.ref a2), .val (.int p3), .val (.int p4), .val (.int v7), .val (.int v10), .val (.long ev), .second, .val (.int ep), .val (.int ei), sl10] [(.int zz)]))) ((ei - v10) - v39) ?_
        intro v41 hv41
        show Go p e below _ (T40.setTop (mkF m 126 _ [(.int v41)]))
        refine Go.step (fun t k => XS.istore X40.here hx rfl (hb hby d4_126) rfl (l' := #[.val (.ref a1), .val (.ref a2), .val (.int p3), .val (.int p4), .val (.int v7), .val (.int v10), .val (.long ev), .second, .val (.int ep), .val (.int ei), .val (.int v41)]) (by rcases hsl10 with rfl | ⟨w, rfl, hw⟩ <;> first | rfl | (cases w <;> first | rfl | (simp [Value.category] at hw))) k) ?_
        show Go p e below _ (T40.setTop (mkF m 128 _ []))
        refine gJ (q := 130) X40 hx (hb hby d4_128) rfl rfl ?_
        refine gC (q := 131) (v := 1) X40 hx (hb hby d4_130) rfl rfl ?_
        refine Go.step (fun t k => XS.icmpYes X40.here hx rfl (pc0 := 131) (pc' := 141) rfl (hb hby d4_131) rfl (tlt (by subst_vars; exact hd1 : v41 < (1 : Int32))).1 (by decide) (by decide) k) ?_
        show Go p e below _ (T40.setTop (mkF m 141 _ []))
        refine gC (q := 142) (v := -1) X40 hx (hb hby d4_141) rfl rfl ?_
        subst hv41
        subst hv39
        subst hv10
        subst hv7
        exact retGI X40 hx Bd.notSynchronized Bd.returns (hb hby d4_142) ⟨rfl, N40, e40⟩ (by decide) (by decide)
  exact LOOP44 _ ff0 v10 (0 : Int64) (-1 : Int32) _ One.u _ _ rfl (by subst_vars; exact hR0) (by subst_vars; exact rdS_nn h3) (by subst_vars; have := rdS_nn (g := g_t) (b := p4) h3; unfold rdS rdN at this; omega) X11 N11 e11
theorem ef_4_hi (m : MethodId) (a1 : Addr) (a2 : Addr) (p3 : Int32) (p4 : Int32) : entryFrame m #[(.ref a1), (.ref a2), (.int p3), (.int p4)] 11 = mkF m 0 #[.val (.ref a1), .val (.ref a2), .val (.int p3), .val (.int p4), .unset, .unset, .unset, .unset, .unset, .unset, .unset] [] := by first | (simp [entryFrame, mkF, argsToLocals, Value.category]; done) | rfl
set_option maxRecDepth 65536 in
set_option maxHeartbeats 40000000 in
theorem rm4_hi (l : Launch) (Z : State) (a0 : Array Value) (hw : ∀ d ∈ tables_1, d.before a0 Z = true) (ws : List Jvm.Cond) (a1 : Addr) (a2 : Addr) (p3 : Int32) (p4 : Int32) (n_t : Nat) (g_t : Nat → Int32) (ff0 : Nat) (ei : Int32) (ev : Int64) (ep : Int32) (h0 : Heap) (n0 : Nat) (Z0 : n0 ≤ h0.size) (hlen : p4.toInt ≤ n_t) (h3 : 0 ≤ p3.toInt) (hR0 : rd g_t p4 ff0 (rdS g_t p3 p4) (0 : Int64) (-1 : Int32) = (ei, ev, ep)) (hf0 : p4.toInt ≤ ff0) (hd1 : ¬ (dgs g_t p3 p4 ei ep) < (1 : Int32)) (hd2 : (18 : Int32) < (dgs g_t p3 p4 ei ep)) (A_a2 : Ary Z h0 a2 .byte n_t (fun i => .int (g_t i))) :
    MetFree l (⟨"com/example/biller/biller/files/PlainValue", "read", "([BII)I"⟩ : MethodName) (head1 (Jvm.Cond.code (⟨"com/example/biller/biller/files/PlainValue", "read", "([BII)I"⟩ : MethodName) prog_81_method_2_code 11 (some .int) :: ws) ({ frames := 0, cells := 0, slots := 0, locals := 0 } : Room)) (fun a U => a = #[(.ref a1), (.ref a2), (.int p3), (.int p4)] ∧ Z.Warmed39 U.vm ∧ U.heap = h0) (fun _ _ _ _ _ => True) (fun _ U o U' => ∃ v L, o = .returned v ∧ QP (.int (-1 : Int32)) h0 n0 v U'.heap L ∧ FrameEnd U o U' L ({ frames := 0, cells := 0, slots := 0, locals := 0 } : Room).cells ({ frames := 0, cells := 0, slots := 0, locals := 0 } : Room).slots) := by
  refine MetFree.of_bodySF (plainFor_of_name pn_1) hisR ?_
  intro p e s m args below meth c s₁ Bd hml0 hP hK
  obtain ⟨rfl, hZ, hh⟩ := hP
  have hx := Bd.exec
  have hby := Bd.bytes
  have hml : c.maxLocals = 11 := hml0
  have hown : s.vm.findClass "com/example/biller/biller/files/PlainValue" = some m.cls := findClass_of_methodNamed Bd.named
  have hnm := (name_of_methodNamed Bd.named Bd.method).1
  have X0 : Stand p l e ({ frames := 0, cells := 0, slots := 0, locals := 0 } : Room) s m #[(.ref a1), (.ref a2), (.int p3), (.int p4)] below meth c s₁ [] 0 0 := Stand.of_body Bd
  have e0 : s₁.heap = h0 := by rw [← hh, Bd.state]; rfl
  have N0 := Fr.nil n0
  refine Go.done (Go.step (fun t k => castTop (ef_4_hi m a1 a2 p3 p4) k) ?_)
  have KK0 : Keep h0 h0 [] := Keep.refl _ _
  show Go p e below _ (s₁.setTop (mkF m 0 _ []))
  refine gI (q := 1) X0 hx (hb hby d4_0) rfl rfl ?_
  refine gI (q := 2) X0 hx (hb hby d4_1) rfl rfl ?_
  obtain ⟨v7, hv7⟩ : ∃ z : Int32, z = (if p3 < p4 then (if (g_t p3.toNatClampNeg) = (45 : Int32) then (1 : Int32) else (0 : Int32)) else (0 : Int32)) := ⟨_, rfl⟩
  have J2 : Go p e below (AtF p l e ({ frames := 0, cells := 0, slots := 0, locals := 0 } : Room) s m #[(.ref a1), (.ref a2), (.int p3), (.int p4)] below meth c n0 0 0 h0 (mkF m 18 #[.val (.ref a1), .val (.ref a2), .val (.int p3), .val (.int p4), .unset, .unset, .unset, .unset, .unset, .unset, .unset] [(.int v7)])) (s₁.setTop (mkF m 2 #[.val (.ref a1), .val (.ref a2), .val (.int p3), .val (.int p4), .unset, .unset, .unset, .unset, .unset, .unset, .unset] [(.int p4), (.int p3)])) := by
   by_cases hc5 : p3 < p4
   · refine Go.step (fun t k => XS.icmpNo X0.here hx rfl (hb hby d4_2) rfl (tlt hc5).2.1 k) ?_
     show Go p e below _ (s₁.setTop (mkF m 5 _ []))
     refine gA (q := 6) X0 hx (hb hby d4_5) rfl rfl rfl ?_
     refine gI (q := 7) X0 hx (hb hby d4_6) rfl rfl ?_
     refine Go.step (ldB X0 hx hZ e0 A_a2 (j := p3) ((nn_iff p3).mpr h3) (own_lt h3 hc5 hlen) (g := (mkF m 7 _ [(.int p3), (.ref a2)])) rfl rfl (hb hby d4_7)) ?_
     show Go p e below _ (s₁.setTop (mkF m 8 _ [(.int (g_t p3.toNatClampNeg))]))
     refine Go.step (fun t k => XS.bipush X0.here hx rfl (hb hby d4_8)  k) ?_
     show Go p e below _ (s₁.setTop (mkF m 10 _ [(.int (45 : Int32)), (.int (g_t p3.toNatClampNeg))]))
     by_cases hc6 : (g_t p3.toNatClampNeg) = (45 : Int32)
     · refine Go.step (fun t k => XS.icmpNo X0.here hx rfl (hb hby d4_10) rfl (teq hc6).2 k) ?_
       show Go p e below _ (s₁.setTop (mkF m 13 _ []))
       refine gC (q := 14) (v := 1) X0 hx (hb hby d4_13) rfl rfl ?_
       refine Go.step (fun t k => XS.goto X0.here hx rfl (pc0 := 14) (pc' := 18) rfl (hb hby d4_14) (by decide) (by decide) k) ?_
       show Go p e below _ (s₁.setTop (mkF m 18 _ [(.int (1 : Int32))]))
       exact Go.here ⟨_, _, by simp only [hv7, if_pos hc5, if_pos hc6], X0, N0, e0⟩
     · refine Go.step (fun t k => XS.icmpYes X0.here hx rfl (pc0 := 10) (pc' := 17) rfl (hb hby d4_10) rfl (feq hc6).2 (by decide) (by decide) k) ?_
       show Go p e below _ (s₁.setTop (mkF m 17 _ []))
       refine gC (q := 18) (v := 0) X0 hx (hb hby d4_17) rfl rfl ?_
       show Go p e below _ (s₁.setTop (mkF m 18 _ [(.int (0 : Int32))]))
       exact Go.here ⟨_, _, by simp only [hv7, if_pos hc5, if_neg hc6], X0, N0, e0⟩
   · refine Go.step (fun t k => XS.icmpYes X0.here hx rfl (pc0 := 2) (pc' := 17) rfl (hb hby d4_2) rfl (flt hc5).2.1 (by decide) (by decide) k) ?_
     show Go p e below _ (s₁.setTop (mkF m 17 _ []))
     refine gC (q := 18) (v := 0) X0 hx (hb hby d4_17) rfl rfl ?_
     show Go p e below _ (s₁.setTop (mkF m 18 _ [(.int (0 : Int32))]))
     exact Go.here ⟨_, _, by simp only [hv7, if_neg hc5], X0, N0, e0⟩
  obtain ⟨_, st8, T8, Lj8, rfl, X8, N8, e8⟩ := J2
  refine Go.trans st8 ?_
  show Go p e below _ (T8.setTop (mkF m 18 _ [(.int v7)]))
  refine Go.step (fun t k => XS.istore X8.here hx rfl (hb hby d4_18) rfl (l' := #[.val (.ref a1), .val (.ref a2), .val (.int p3), .val (.int p4), .val (.int v7), .unset, .unset, .unset, .unset, .unset, .unset]) rfl k) ?_
  show Go p e below _ (T8.setTop (mkF m 20 _ []))
  refine gJ (q := 22) X8 hx (hb hby d4_20) rfl rfl ?_
  obtain ⟨v10, hv10⟩ : ∃ z : Int32, z = (if v7 = (0 : Int32) then p3 else (p3 + (1 : Int32))) := ⟨_, rfl⟩
  have J22 : Go p e below (AtF p l e ({ frames := 0, cells := 0, slots := 0, locals := 0 } : Room) s m #[(.ref a1), (.ref a2), (.int p3), (.int p4)] below meth c n0 0 0 h0 (mkF m 32 #[.val (.ref a1), .val (.ref a2), .val (.int p3), .val (.int p4), .val (.int v7), .unset, .unset, .unset, .unset, .unset, .unset] [(.int v10)])) (T8.setTop (mkF m 22 #[.val (.ref a1), .val (.ref a2), .val (.int p3), .val (.int p4), .val (.int v7), .unset, .unset, .unset, .unset, .unset, .unset] [(.int v7)])) := by
   by_cases hc9 : v7 = (0 : Int32)
   · refine Go.step (fun t k => XS.ifYes X8.here hx rfl (pc0 := 22) (pc' := 31) rfl (hb hby d4_22) rfl ((if0 _ _).trans (teq hc9).1) (by decide) (by decide) k) ?_
     show Go p e below _ (T8.setTop (mkF m 31 _ []))
     refine gI (q := 32) X8 hx (hb hby d4_31) rfl rfl ?_
     show Go p e below _ (T8.setTop (mkF m 32 _ [(.int p3)]))
     exact Go.here ⟨_, _, by simp only [hv10, if_pos hc9], X8, N8, e8⟩
   · refine Go.step (fun t k => XS.ifNo X8.here hx rfl (hb hby d4_22) rfl ((if0 _ _).trans (feq hc9).1) k) ?_
     show Go p e below _ (T8.setTop (mkF m 25 _ []))
     refine gI (q := 26) X8 hx (hb hby d4_25) rfl rfl ?_
     refine gC (q := 27) (v := 1) X8 hx (hb hby d4_26) rfl rfl ?_
     refine Go.step (fun t k => XS.iadd X8.here hx rfl (hb hby d4_27) rfl k) ?_
     show Go p e below _ (T8.setTop (mkF m 28 _ [(.int (p3 + (1 : Int32)))]))
     refine Go.step (fun t k => XS.goto X8.here hx rfl (pc0 := 28) (pc' := 32) rfl (hb hby d4_28) (by decide) (by decide) k) ?_
     show Go p e below _ (T8.setTop (mkF m 32 _ [(.int (p3 + (1 : Int32)))]))
     exact Go.here ⟨_, _, by simp only [hv10, if_neg hc9], X8, N8, e8⟩
  obtain ⟨_, st11, T11, Lj11, rfl, X11, N11, e11⟩ := J22
  refine Go.trans st11 ?_
  show Go p e below _ (T11.setTop (mkF m 32 _ [(.int v10)]))
  refine Go.step (fun t k => XS.istore X11.here hx rfl (hb hby d4_32) rfl (l' := #[.val (.ref a1), .val (.ref a2), .val (.int p3), .val (.int p4), .val (.int v7), .val (.int v10), .unset, .unset, .unset, .unset, .unset]) rfl k) ?_
  show Go p e below _ (T11.setTop (mkF m 34 _ []))
  refine Go.step (fun t k => XS.lconst X11.here hx rfl (hb hby d4_34)  k) ?_
  show Go p e below _ (T11.setTop (mkF m 35 _ [(.long (0 : Int64))]))
  refine Go.step (fun t k => XS.lstore X11.here hx rfl (hb hby d4_35) rfl (l' := #[.val (.ref a1), .val (.ref a2), .val (.int p3), .val (.int p4), .val (.int v7), .val (.int v10), .val (.long (0 : Int64)), .second, .unset, .unset, .unset]) rfl k) ?_
  show Go p e below _ (T11.setTop (mkF m 37 _ []))
  refine gC (q := 38) (v := -1) X11 hx (hb hby d4_37) rfl rfl ?_
  refine Go.step (fun t k => XS.istore X11.here hx rfl (hb hby d4_38) rfl (l' := #[.val (.ref a1), .val (.ref a2), .val (.int p3), .val (.int p4), .val (.int v7), .val (.int v10), .val (.long (0 : Int64)), .second, .val (.int (-1 : Int32)), .unset, .unset]) rfl k) ?_
  show Go p e below _ (T11.setTop (mkF m 40 _ []))
  refine gJ (q := 42) X11 hx (hb hby d4_40) rfl rfl ?_
  refine Go.step (fun t k => XS.istore X11.here hx rfl (hb hby d4_42) rfl (l' := #[.val (.ref a1), .val (.ref a2), .val (.int p3), .val (.int p4), .val (.int v7), .val (.int v10), .val (.long (0 : Int64)), .second, .val (.int (-1 : Int32)), .val (.int v10), .unset]) rfl k) ?_
  show Go p e below _ (T11.setTop (mkF m 44 _ []))
  have LOOP44 : ∀ (mm : Nat) (ff : Nat) (ix : Int32) (vl : Int64) (pt : Int32) (sl10 : Slot) (hsl10 : One sl10) (Tl12 : State) (Ll12 : List Loc) (hmm : ff = mm) (hR : rd g_t p4 ff ix vl pt = (ei, ev, ep)) (hi : 0 ≤ ix.toInt) (hff : p4.toInt - ix.toInt ≤ ff) (Xl12 : Stand p l e ({ frames := 0, cells := 0, slots := 0, locals := 0 } : Room) s m #[(.ref a1), (.ref a2), (.int p3), (.int p4)] below meth c Tl12 Ll12 0 0) (Nl12 : Fr n0 Ll12) (el12 : Tl12.heap = h0), Go p e below (FinQ below s (QP (.int (-1 : Int32)) h0 n0) ({ frames := 0, cells := 0, slots := 0, locals := 0 } : Room).cells ({ frames := 0, cells := 0, slots := 0, locals := 0 } : Room).slots) (Tl12.setTop (mkF m 44 #[.val (.ref a1), .val (.ref a2), .val (.int p3), .val (.int p4), .val (.int v7), .val (.int v10), .val (.long vl), .second, .val (.int pt), .val (.int ix), sl10] [])) := by
    intro mm
    induction mm using Nat.strongRecOn with
    | _ mm ih =>
      intro ff ix vl pt sl10 hsl10 Tl12 Ll12 hmm hR hi hff Xl12 Nl12 el12
      show Go p e below _ (Tl12.setTop (mkF m 44 _ []))
      refine gJ (q := 46) Xl12 hx (hb hby d4_44) rfl rfl ?_
      refine gI (q := 47) Xl12 hx (hb hby d4_46) rfl rfl ?_
      by_cases hc13 : ix < p4
      · refine Go.step (fun t k => XS.icmpNo Xl12.here hx rfl (hb hby d4_47) rfl (tlt hc13).2.1 k) ?_
        show Go p e below _ (Tl12.setTop (mkF m 50 _ []))
        obtain ⟨fu, rfl⟩ : ∃ z, ff = z + 1 := ⟨ff - 1, by have := Int32.lt_iff_toInt_lt.mp hc13; omega⟩
        show Go p e below _ (Tl12.setTop (mkF m 50 _ []))
        refine gA (q := 51) Xl12 hx (hb hby d4_50) rfl rfl rfl ?_
        refine gJ (q := 53) Xl12 hx (hb hby d4_51) rfl rfl ?_
        refine Go.step (ldB Xl12 hx hZ el12 A_a2 (j := ix) ((nn_iff ix).mpr hi) (own_lt hi hc13 hlen) (g := (mkF m 53 _ [(.int ix), (.ref a2)])) rfl rfl (hb hby d4_53)) ?_
        show Go p e below _ (Tl12.setTop (mkF m 54 _ [(.int (g_t ix.toNatClampNeg))]))
        refine Go.step (fun t k => XS.bipush Xl12.here hx rfl (hb hby d4_54)  k) ?_
        show Go p e below _ (Tl12.setTop (mkF m 56 _ [(.int (48 : Int32)), (.int (g_t ix.toNatClampNeg))]))
        refine Go.step (fun t k => XS.isub Xl12.here hx rfl (hb hby d4_56) rfl k) ?_
        show Go p e below _ (Tl12.setTop (mkF m 57 _ [(.int ((g_t ix.toNatClampNeg) - (48 : Int32)))]))
        refine nameIt (fun zz : Int32 => Go p e below _ (Tl12.setTop (mkF m 57 #[.val (.ref a1), .val (.ref a2), .val (.int p3), .val (.int p4), .val (.int v7), .val (.int v10), .val (.long vl), .second, .val (.int pt), .val (.int ix), sl10] [(.int zz)]))) ((g_t ix.toNatClampNeg) - (48 : Int32)) ?_
        intro v14 hv14
        show Go p e below _ (Tl12.setTop (mkF m 57 _ [(.int v14)]))
        refine Go.step (fun t k => XS.istore Xl12.here hx rfl (hb hby d4_57) rfl (l' := #[.val (.ref a1), .val (.ref a2), .val (.int p3), .val (.int p4), .val (.int v7), .val (.int v10), .val (.long vl), .second, .val (.int pt), .val (.int ix), .val (.int v14)]) (by rcases hsl10 with rfl | ⟨w, rfl, hw⟩ <;> first | rfl | (cases w <;> first | rfl | (simp [Value.category] at hw))) k) ?_
        show Go p e below _ (Tl12.setTop (mkF m 59 _ []))
        refine gJ (q := 61) Xl12 hx (hb hby d4_59) rfl rfl ?_
        by_cases hc15 : v14 < (0 : Int32)
        · refine Go.step (fun t k => XS.ifYes Xl12.here hx rfl (pc0 := 61) (pc' := 86) rfl (hb hby d4_61) rfl ((if0 _ _).trans (tlt hc15).1) (by decide) (by decide) k) ?_
          show Go p e below _ (Tl12.setTop (mkF m 86 _ []))
          refine gA (q := 87) Xl12 hx (hb hby d4_86) rfl rfl rfl ?_
          refine gJ (q := 89) Xl12 hx (hb hby d4_87) rfl rfl ?_
          refine Go.step (ldB Xl12 hx hZ el12 A_a2 (j := ix) ((nn_iff ix).mpr hi) (own_lt hi hc13 hlen) (g := (mkF m 89 _ [(.int ix), (.ref a2)])) rfl rfl (hb hby d4_89)) ?_
          show Go p e below _ (Tl12.setTop (mkF m 90 _ [(.int (g_t ix.toNatClampNeg))]))
          refine Go.step (fun t k => XS.bipush Xl12.here hx rfl (hb hby d4_90)  k) ?_
          show Go p e below _ (Tl12.setTop (mkF m 92 _ [(.int (46 : Int32)), (.int (g_t ix.toNatClampNeg))]))
          by_cases hc16 : (g_t ix.toNatClampNeg) = (46 : Int32)
          · refine Go.step (fun t k => XS.icmpNo Xl12.here hx rfl (hb hby d4_92) rfl (teq hc16).2 k) ?_
            show Go p e below _ (Tl12.setTop (mkF m 95 _ []))
            refine gJ (q := 97) Xl12 hx (hb hby d4_95) rfl rfl ?_
            by_cases hc17 : pt < (0 : Int32)
            · refine Go.step (fun t k => XS.ifNo Xl12.here hx rfl (hb hby d4_97) rfl ((if0 _ _).trans (tlt hc17).2.1) k) ?_
              show Go p e below _ (Tl12.setTop (mkF m 100 _ []))
              refine gJ (q := 102) Xl12 hx (hb hby d4_100) rfl rfl ?_
              refine Go.step (fun t k => XS.istore Xl12.here hx rfl (hb hby d4_102) rfl (l' := #[.val (.ref a1), .val (.ref a2), .val (.int p3), .val (.int p4), .val (.int v7), .val (.int v10), .val (.long vl), .second, .val (.int ix), .val (.int ix), .val (.int v14)]) rfl k) ?_
              show Go p e below _ (Tl12.setTop (mkF m 104 _ []))
              refine Go.step (fun t k => XS.iinc Xl12.here hx rfl (hb hby d4_104) rfl (l' := #[.val (.ref a1), .val (.ref a2), .val (.int p3), .val (.int p4), .val (.int v7), .val (.int v10), .val (.long vl), .second, .val (.int ix), .val (.int (ix + (1 : Int32))), .val (.int v14)]) rfl k) ?_
              show Go p e below _ (Tl12.setTop (mkF m 107 _ []))
              refine Go.step (fun t k => XS.goto Xl12.here hx rfl (pc0 := 107) (pc' := 44) rfl (hb hby d4_107) (by decide) (by decide) k) ?_
              show Go p e below _ (Tl12.setTop (mkF m 44 _ []))
              show Go p e below _ (Tl12.setTop (mkF m 44 _ []))
              exact ih _ (by omega) fu (ix + (1 : Int32)) vl ix _ (One.val rfl) _ _ rfl (by have q := hR; rw [rd_dot fu hc13 hc16 hc17] at q; exact q) (by rw [own_i1 hc13]; omega) (by rw [own_i1 hc13]; omega) Xl12 Nl12 el12
            · refine Go.step (fun t k => XS.ifYes Xl12.here hx rfl (pc0 := 97) (pc' := 110) rfl (hb hby d4_97) rfl ((if0 _ _).trans (flt hc17).2.1) (by decide) (by decide) k) ?_
              show Go p e below _ (Tl12.setTop (mkF m 110 _ []))
              have hE := hR
              rw [rd_no _ (Or.inl (by rw [← hv14]; exact hc15)) (Or.inr hc17)] at hE
              have hE1 : ei = ix := (congrArg (fun z => z.1) hE).symm
              have hE2 : ev = vl := (congrArg (fun z => z.2.1) hE).symm
              have hE3 : ep = pt := (congrArg (fun z => z.2.2) hE).symm
              subst hE1 hE2 hE3
              show Go p e below _ (Tl12.setTop (mkF m 110 _ []))
              refine gJ (q := 112) Xl12 hx (hb hby d4_110) rfl rfl ?_
              refine gJ (q := 114) Xl12 hx (hb hby d4_112) rfl rfl ?_
              refine Go.step (fun t k => XS.isub Xl12.here hx rfl (hb hby d4_114) rfl k) ?_
              show Go p e below _ (Tl12.setTop (mkF m 115 _ [(.int (ei - v10))]))
              refine gJ (q := 117) Xl12 hx (hb hby d4_115) rfl rfl ?_
              obtain ⟨v19, hv19⟩ : ∃ z : Int32, z = (if ep < (0 : Int32) then (0 : Int32) else (1 : Int32)) := ⟨_, rfl⟩
              have J117 : Go p e below (AtF p l e ({ frames := 0, cells := 0, slots := 0, locals := 0 } : Room) s m #[(.ref a1), (.ref a2), (.int p3), (.int p4)] below meth c n0 0 0 h0 (mkF m 125 #[.val (.ref a1), .val (.ref a2), .val (.int p3), .val (.int p4), .val (.int v7), .val (.int v10), .val (.long ev), .second, .val (.int ep), .val (.int ei), .val (.int v14)] [(.int v19), (.int (ei - v10))])) (Tl12.setTop (mkF m 117 #[.val (.ref a1), .val (.ref a2), .val (.int p3), .val (.int p4), .val (.int v7), .val (.int v10), .val (.long ev), .second, .val (.int ep), .val (.int ei), .val (.int v14)] [(.int ep), (.int (ei - v10))])) := by
               by_cases hc18 : ep < (0 : Int32)
               · refine Go.step (fun t k => XS.ifNo Xl12.here hx rfl (hb hby d4_117) rfl ((if0 _ _).trans (tlt hc18).2.1) k) ?_
                 show Go p e below _ (Tl12.setTop (mkF m 120 _ [(.int (ei - v10))]))
                 refine gC (q := 121) (v := 0) Xl12 hx (hb hby d4_120) rfl rfl ?_
                 refine Go.step (fun t k => XS.goto Xl12.here hx rfl (pc0 := 121) (pc' := 125) rfl (hb hby d4_121) (by decide) (by decide) k) ?_
                 show Go p e below _ (Tl12.setTop (mkF m 125 _ [(.int (0 : Int32)), (.int (ei - v10))]))
                 exact Go.here ⟨_, _, by simp only [hv19, if_pos hc18], Xl12, Nl12, el12⟩
               · refine Go.step (fun t k => XS.ifYes Xl12.here hx rfl (pc0 := 117) (pc' := 124) rfl (hb hby d4_117) rfl ((if0 _ _).trans (flt hc18).2.1) (by decide) (by decide) k) ?_
                 show Go p e below _ (Tl12.setTop (mkF m 124 _ [(.int (ei - v10))]))
                 refine gC (q := 125) (v := 1) Xl12 hx (hb hby d4_124) rfl rfl ?_
                 show Go p e below _ (Tl12.setTop (mkF m 125 _ [(.int (1 : Int32)), (.int (ei - v10))]))
                 exact Go.here ⟨_, _, by simp only [hv19, if_neg hc18], Xl12, Nl12, el12⟩
              obtain ⟨_, st20, T20, Lj20, rfl, X20, N20, e20⟩ := J117
              refine Go.trans st20 ?_
              show Go p e below _ (T20.setTop (mkF m 125 _ [(.int v19), (.int (ei - v10))]))
              refine Go.step (fun t k => XS.isub X20.here hx rfl (hb hby d4_125) rfl k) ?_
              show Go p e below _ (T20.setTop (mkF m 126 _ [(.int ((ei - v10) - v19))]))
              refine nameIt (fun zz : Int32 => Go p e below _ (T20.setTop (mkF m 126 #[.val (.ref a1), .val (.ref a2), .val (.int p3), .val (.int p4), .val (.int v7), .val (.int v10), .val (.long ev), .second, .val (.int ep), .val (.int ei), .val (.int v14)] [(.int zz)]))) ((ei - v10) - v19) ?_
              intro v21 hv21
              show Go p e below _ (T20.setTop (mkF m 126 _ [(.int v21)]))
              refine Go.step (fun t k => XS.istore X20.here hx rfl (hb hby d4_126) rfl (l' := #[.val (.ref a1), .val (.ref a2), .val (.int p3), .val (.int p4), .val (.int v7), .val (.int v10), .val (.long ev), .second, .val (.int ep), .val (.int ei), .val (.int v21)]) rfl k) ?_
              show Go p e below _ (T20.setTop (mkF m 128 _ []))
              refine gJ (q := 130) X20 hx (hb hby d4_128) rfl rfl ?_
              refine gC (q := 131) (v := 1) X20 hx (hb hby d4_130) rfl rfl ?_
              refine Go.step (fun t k => XS.icmpNo X20.here hx rfl (hb hby d4_131) rfl (flt (by subst_vars; exact hd1 : ¬ (v21 < (1 : Int32)))).1 k) ?_
              show Go p e below _ (T20.setTop (mkF m 134 _ []))
              refine gJ (q := 136) X20 hx (hb hby d4_134) rfl rfl ?_
              refine Go.step (fun t k => XS.bipush X20.here hx rfl (hb hby d4_136)  k) ?_
              show Go p e below _ (T20.setTop (mkF m 138 _ [(.int (18 : Int32)), (.int v21)]))
              refine Go.step (fun t k => XS.icmpNo X20.here hx rfl (hb hby d4_138) rfl (tlt (by subst_vars; exact hd2 : (18 : Int32) < v21)).2.2.2 k) ?_
              show Go p e below _ (T20.setTop (mkF m 141 _ []))
              refine gC (q := 142) (v := -1) X20 hx (hb hby d4_141) rfl rfl ?_
              subst hv21
              subst hv19
              subst hv14
              subst hv10
              subst hv7
              exact retGI X20 hx Bd.notSynchronized Bd.returns (hb hby d4_142) ⟨rfl, N20, e20⟩ (by decide) (by decide)
          · refine Go.step (fun t k => XS.icmpYes Xl12.here hx rfl (pc0 := 92) (pc' := 110) rfl (hb hby d4_92) rfl (feq hc16).2 (by decide) (by decide) k) ?_
            show Go p e below _ (Tl12.setTop (mkF m 110 _ []))
            have hE := hR
            rw [rd_no _ (Or.inl (by rw [← hv14]; exact hc15)) (Or.inl hc16)] at hE
            have hE1 : ei = ix := (congrArg (fun z => z.1) hE).symm
            have hE2 : ev = vl := (congrArg (fun z => z.2.1) hE).symm
            have hE3 : ep = pt := (congrArg (fun z => z.2.2) hE).symm
            subst hE1 hE2 hE3
            show Go p e below _ (Tl12.setTop (mkF m 110 _ []))
            refine gJ (q := 112) Xl12 hx (hb hby d4_110) rfl rfl ?_
            refine gJ (q := 114) Xl12 hx (hb hby d4_112) rfl rfl ?_
            refine Go.step (fun t k => XS.isub Xl12.here hx rfl (hb hby d4_114) rfl k) ?_
            show Go p e below _ (Tl12.setTop (mkF m 115 _ [(.int (ei - v10))]))
            refine gJ (q := 117) Xl12 hx (hb hby d4_115) rfl rfl ?_
            obtain ⟨v23, hv23⟩ : ∃ z : Int32, z = (if ep < (0 : Int32) then (0 : Int32) else (1 : Int32)) := ⟨_, rfl⟩
            have J117 : Go p e below (AtF p l e ({ frames := 0, cells := 0, slots := 0, locals := 0 } : Room) s m #[(.ref a1), (.ref a2), (.int p3), (.int p4)] below meth c n0 0 0 h0 (mkF m 125 #[.val (.ref a1), .val (.ref a2), .val (.int p3), .val (.int p4), .val (.int v7), .val (.int v10), .val (.long ev), .second, .val (.int ep), .val (.int ei), .val (.int v14)] [(.int v23), (.int (ei - v10))])) (Tl12.setTop (mkF m 117 #[.val (.ref a1), .val (.ref a2), .val (.int p3), .val (.int p4), .val (.int v7), .val (.int v10), .val (.long ev), .second, .val (.int ep), .val (.int ei), .val (.int v14)] [(.int ep), (.int (ei - v10))])) := by
             by_cases hc22 : ep < (0 : Int32)
             · refine Go.step (fun t k => XS.ifNo Xl12.here hx rfl (hb hby d4_117) rfl ((if0 _ _).trans (tlt hc22).2.1) k) ?_
               show Go p e below _ (Tl12.setTop (mkF m 120 _ [(.int (ei - v10))]))
               refine gC (q := 121) (v := 0) Xl12 hx (hb hby d4_120) rfl rfl ?_
               refine Go.step (fun t k => XS.goto Xl12.here hx rfl (pc0 := 121) (pc' := 125) rfl (hb hby d4_121) (by decide) (by decide) k) ?_
               show Go p e below _ (Tl12.setTop (mkF m 125 _ [(.int (0 : Int32)), (.int (ei - v10))]))
               exact Go.here ⟨_, _, by simp only [hv23, if_pos hc22], Xl12, Nl12, el12⟩
             · refine Go.step (fun t k => XS.ifYes Xl12.here hx rfl (pc0 := 117) (pc' := 124) rfl (hb hby d4_117) rfl ((if0 _ _).trans (flt hc22).2.1) (by decide) (by decide) k) ?_
               show Go p e below _ (Tl12.setTop (mkF m 124 _ [(.int (ei - v10))]))
               refine gC (q := 125) (v := 1) Xl12 hx (hb hby d4_124) rfl rfl ?_
               show Go p e below _ (Tl12.setTop (mkF m 125 _ [(.int (1 : Int32)), (.int (ei - v10))]))
               exact Go.here ⟨_, _, by simp only [hv23, if_neg hc22], Xl12, Nl12, el12⟩
            obtain ⟨_, st24, T24, Lj24, rfl, X24, N24, e24⟩ := J117
            refine Go.trans st24 ?_
            show Go p e below _ (T24.setTop (mkF m 125 _ [(.int v23), (.int (ei - v10))]))
            refine Go.step (fun t k => XS.isub X24.here hx rfl (hb hby d4_125) rfl k) ?_
            show Go p e below _ (T24.setTop (mkF m 126 _ [(.int ((ei - v10) - v23))]))
            refine nameIt (fun zz : Int32 => Go p e below _ (T24.setTop (mkF m 126 #[.val (.ref a1), .val (.ref a2), .val (.int p3), .val (.int p4), .val (.int v7), .val (.int v10), .val (.long ev), .second, .val (.int ep), .val (.int ei), .val (.int v14)] [(.int zz)]))) ((ei - v10) - v23) ?_
            intro v25 hv25
            show Go p e below _ (T24.setTop (mkF m 126 _ [(.int v25)]))
            refine Go.step (fun t k => XS.istore X24.here hx rfl (hb hby d4_126) rfl (l' := #[.val (.ref a1), .val (.ref a2), .val (.int p3), .val (.int p4), .val (.int v7), .val (.int v10), .val (.long ev), .second, .val (.int ep), .val (.int ei), .val (.int v25)]) rfl k) ?_
            show Go p e below _ (T24.setTop (mkF m 128 _ []))
            refine gJ (q := 130) X24 hx (hb hby d4_128) rfl rfl ?_
            refine gC (q := 131) (v := 1) X24 hx (hb hby d4_130) rfl rfl ?_
            refine Go.step (fun t k => XS.icmpNo X24.here hx rfl (hb hby d4_131) rfl (flt (by subst_vars; exact hd1 : ¬ (v25 < (1 : Int32)))).1 k) ?_
            show Go p e below _ (T24.setTop (mkF m 134 _ []))
            refine gJ (q := 136) X24 hx (hb hby d4_134) rfl rfl ?_
            refine Go.step (fun t k => XS.bipush X24.here hx rfl (hb hby d4_136)  k) ?_
            show Go p e below _ (T24.setTop (mkF m 138 _ [(.int (18 : Int32)), (.int v25)]))
            refine Go.step (fun t k => XS.icmpNo X24.here hx rfl (hb hby d4_138) rfl (tlt (by subst_vars; exact hd2 : (18 : Int32) < v25)).2.2.2 k) ?_
            show Go p e below _ (T24.setTop (mkF m 141 _ []))
            refine gC (q := 142) (v := -1) X24 hx (hb hby d4_141) rfl rfl ?_
            subst hv25
            subst hv23
            subst hv14
            subst hv10
            subst hv7
            exact retGI X24 hx Bd.notSynchronized Bd.returns (hb hby d4_142) ⟨rfl, N24, e24⟩ (by decide) (by decide)
        · refine Go.step (fun t k => XS.ifNo Xl12.here hx rfl (hb hby d4_61) rfl ((if0 _ _).trans (flt hc15).1) k) ?_
          show Go p e below _ (Tl12.setTop (mkF m 64 _ []))
          refine gJ (q := 66) Xl12 hx (hb hby d4_64) rfl rfl ?_
          refine Go.step (fun t k => XS.bipush Xl12.here hx rfl (hb hby d4_66)  k) ?_
          show Go p e below _ (Tl12.setTop (mkF m 68 _ [(.int (9 : Int32)), (.int v14)]))
          by_cases hc26 : (9 : Int32) < v14
          · refine Go.step (fun t k => XS.icmpYes Xl12.here hx rfl (pc0 := 68) (pc' := 86) rfl (hb hby d4_68) rfl (tlt hc26).2.2.1 (by decide) (by decide) k) ?_
            show Go p e below _ (Tl12.setTop (mkF m 86 _ []))
            refine gA (q := 87) Xl12 hx (hb hby d4_86) rfl rfl rfl ?_
            refine gJ (q := 89) Xl12 hx (hb hby d4_87) rfl rfl ?_
            refine Go.step (ldB Xl12 hx hZ el12 A_a2 (j := ix) ((nn_iff ix).mpr hi) (own_lt hi hc13 hlen) (g := (mkF m 89 _ [(.int ix), (.ref a2)])) rfl rfl (hb hby d4_89)) ?_
            show Go p e below _ (Tl12.setTop (mkF m 90 _ [(.int (g_t ix.toNatClampNeg))]))
            refine Go.step (fun t k => XS.bipush Xl12.here hx rfl (hb hby d4_90)  k) ?_
            show Go p e below _ (Tl12.setTop (mkF m 92 _ [(.int (46 : Int32)), (.int (g_t ix.toNatClampNeg))]))
            by_cases hc27 : (g_t ix.toNatClampNeg) = (46 : Int32)
            · refine Go.step (fun t k => XS.icmpNo Xl12.here hx rfl (hb hby d4_92) rfl (teq hc27).2 k) ?_
              show Go p e below _ (Tl12.setTop (mkF m 95 _ []))
              refine gJ (q := 97) Xl12 hx (hb hby d4_95) rfl rfl ?_
              by_cases hc28 : pt < (0 : Int32)
              · refine Go.step (fun t k => XS.ifNo Xl12.here hx rfl (hb hby d4_97) rfl ((if0 _ _).trans (tlt hc28).2.1) k) ?_
                show Go p e below _ (Tl12.setTop (mkF m 100 _ []))
                refine gJ (q := 102) Xl12 hx (hb hby d4_100) rfl rfl ?_
                refine Go.step (fun t k => XS.istore Xl12.here hx rfl (hb hby d4_102) rfl (l' := #[.val (.ref a1), .val (.ref a2), .val (.int p3), .val (.int p4), .val (.int v7), .val (.int v10), .val (.long vl), .second, .val (.int ix), .val (.int ix), .val (.int v14)]) rfl k) ?_
                show Go p e below _ (Tl12.setTop (mkF m 104 _ []))
                refine Go.step (fun t k => XS.iinc Xl12.here hx rfl (hb hby d4_104) rfl (l' := #[.val (.ref a1), .val (.ref a2), .val (.int p3), .val (.int p4), .val (.int v7), .val (.int v10), .val (.long vl), .second, .val (.int ix), .val (.int (ix + (1 : Int32))), .val (.int v14)]) rfl k) ?_
                show Go p e below _ (Tl12.setTop (mkF m 107 _ []))
                refine Go.step (fun t k => XS.goto Xl12.here hx rfl (pc0 := 107) (pc' := 44) rfl (hb hby d4_107) (by decide) (by decide) k) ?_
                show Go p e below _ (Tl12.setTop (mkF m 44 _ []))
                show Go p e below _ (Tl12.setTop (mkF m 44 _ []))
                exact ih _ (by omega) fu (ix + (1 : Int32)) vl ix _ (One.val rfl) _ _ rfl (by have q := hR; rw [rd_dot fu hc13 hc27 hc28] at q; exact q) (by rw [own_i1 hc13]; omega) (by rw [own_i1 hc13]; omega) Xl12 Nl12 el12
              · refine Go.step (fun t k => XS.ifYes Xl12.here hx rfl (pc0 := 97) (pc' := 110) rfl (hb hby d4_97) rfl ((if0 _ _).trans (flt hc28).2.1) (by decide) (by decide) k) ?_
                show Go p e below _ (Tl12.setTop (mkF m 110 _ []))
                have hE := hR
                rw [rd_no _ (Or.inr (by rw [← hv14]; exact hc26)) (Or.inr hc28)] at hE
                have hE1 : ei = ix := (congrArg (fun z => z.1) hE).symm
                have hE2 : ev = vl := (congrArg (fun z => z.2.1) hE).symm
                have hE3 : ep = pt := (congrArg (fun z => z.2.2) hE).symm
                subst hE1 hE2 hE3
                show Go p e below _ (Tl12.setTop (mkF m 110 _ []))
                refine gJ (q := 112) Xl12 hx (hb hby d4_110) rfl rfl ?_
                refine gJ (q := 114) Xl12 hx (hb hby d4_112) rfl rfl ?_
                refine Go.step (fun t k => XS.isub Xl12.here hx rfl (hb hby d4_114) rfl k) ?_
                show Go p e below _ (Tl12.setTop (mkF m 115 _ [(.int (ei - v10))]))
                refine gJ (q := 117) Xl12 hx (hb hby d4_115) rfl rfl ?_
                obtain ⟨v30, hv30⟩ : ∃ z : Int32, z = (if ep < (0 : Int32) then (0 : Int32) else (1 : Int32)) := ⟨_, rfl⟩
                have J117 : Go p e below (AtF p l e ({ frames := 0, cells := 0, slots := 0, locals := 0 } : Room) s m #[(.ref a1), (.ref a2), (.int p3), (.int p4)] below meth c n0 0 0 h0 (mkF m 125 #[.val (.ref a1), .val (.ref a2), .val (.int p3), .val (.int p4), .val (.int v7), .val (.int v10), .val (.long ev), .second, .val (.int ep), .val (.int ei), .val (.int v14)] [(.int v30), (.int (ei - v10))])) (Tl12.setTop (mkF m 117 #[.val (.ref a1), .val (.ref a2), .val (.int p3), .val (.int p4), .val (.int v7), .val (.int v10), .val (.long ev), .second, .val (.int ep), .val (.int ei), .val (.int v14)] [(.int ep), (.int (ei - v10))])) := by
                 by_cases hc29 : ep < (0 : Int32)
                 · refine Go.step (fun t k => XS.ifNo Xl12.here hx rfl (hb hby d4_117) rfl ((if0 _ _).trans (tlt hc29).2.1) k) ?_
                   show Go p e below _ (Tl12.setTop (mkF m 120 _ [(.int (ei - v10))]))
                   refine gC (q := 121) (v := 0) Xl12 hx (hb hby d4_120) rfl rfl ?_
                   refine Go.step (fun t k => XS.goto Xl12.here hx rfl (pc0 := 121) (pc' := 125) rfl (hb hby d4_121) (by decide) (by decide) k) ?_
                   show Go p e below _ (Tl12.setTop (mkF m 125 _ [(.int (0 : Int32)), (.int (ei - v10))]))
                   exact Go.here ⟨_, _, by simp only [hv30, if_pos hc29], Xl12, Nl12, el12⟩
                 · refine Go.step (fun t k => XS.ifYes Xl12.here hx rfl (pc0 := 117) (pc' := 124) rfl (hb hby d4_117) rfl ((if0 _ _).trans (flt hc29).2.1) (by decide) (by decide) k) ?_
                   show Go p e below _ (Tl12.setTop (mkF m 124 _ [(.int (ei - v10))]))
                   refine gC (q := 125) (v := 1) Xl12 hx (hb hby d4_124) rfl rfl ?_
                   show Go p e below _ (Tl12.setTop (mkF m 125 _ [(.int (1 : Int32)), (.int (ei - v10))]))
                   exact Go.here ⟨_, _, by simp only [hv30, if_neg hc29], Xl12, Nl12, el12⟩
                obtain ⟨_, st31, T31, Lj31, rfl, X31, N31, e31⟩ := J117
                refine Go.trans st31 ?_
                show Go p e below _ (T31.setTop (mkF m 125 _ [(.int v30), (.int (ei - v10))]))
                refine Go.step (fun t k => XS.isub X31.here hx rfl (hb hby d4_125) rfl k) ?_
                show Go p e below _ (T31.setTop (mkF m 126 _ [(.int ((ei - v10) - v30))]))
                refine nameIt (fun zz : Int32 => Go p e below _ (T31.setTop (mkF m 126 #[.val (.ref a1), .val (.ref a2), .val (.int p3), .val (.int p4), .val (.int v7), .val (.int v10), .val (.long ev), .second, .val (.int ep), .val (.int ei), .val (.int v14)] [(.int zz)]))) ((ei - v10) - v30) ?_
                intro v32 hv32
                show Go p e below _ (T31.setTop (mkF m 126 _ [(.int v32)]))
                refine Go.step (fun t k => XS.istore X31.here hx rfl (hb hby d4_126) rfl (l' := #[.val (.ref a1), .val (.ref a2), .val (.int p3), .val (.int p4), .val (.int v7), .val (.int v10), .val (.long ev), .second, .val (.int ep), .val (.int ei), .val (.int v32)]) rfl k) ?_
                show Go p e below _ (T31.setTop (mkF m 128 _ []))
                refine gJ (q := 130) X31 hx (hb hby d4_128) rfl rfl ?_
                refine gC (q := 131) (v := 1) X31 hx (hb hby d4_130) rfl rfl ?_
                refine Go.step (fun t k => XS.icmpNo X31.here hx rfl (hb hby d4_131) rfl (flt (by subst_vars; exact hd1 : ¬ (v32 < (1 : Int32)))).1 k) ?_
                show Go p e below _ (T31.setTop (mkF m 134 _ []))
                refine gJ (q := 136) X31 hx (hb hby d4_134) rfl rfl ?_
                refine Go.step (fun t k => XS.bipush X31.here hx rfl (hb hby d4_136)  k) ?_
                show Go p e below _ (T31.setTop (mkF m 138 _ [(.int (18 : Int32)), (.int v32)]))
                refine Go.step (fun t k => XS.icmpNo X31.here hx rfl (hb hby d4_138) rfl (tlt (by subst_vars; exact hd2 : (18 : Int32) < v32)).2.2.2 k) ?_
                show Go p e below _ (T31.setTop (mkF m 141 _ []))
                refine gC (q := 142) (v := -1) X31 hx (hb hby d4_141) rfl rfl ?_
                subst hv32
                subst hv30
                subst hv14
                subst hv10
                subst hv7
                exact retGI X31 hx Bd.notSynchronized Bd.returns (hb hby d4_142) ⟨rfl, N31, e31⟩ (by decide) (by decide)
            · refine Go.step (fun t k => XS.icmpYes Xl12.here hx rfl (pc0 := 92) (pc' := 110) rfl (hb hby d4_92) rfl (feq hc27).2 (by decide) (by decide) k) ?_
              show Go p e below _ (Tl12.setTop (mkF m 110 _ []))
              have hE := hR
              rw [rd_no _ (Or.inr (by rw [← hv14]; exact hc26)) (Or.inl hc27)] at hE
              have hE1 : ei = ix := (congrArg (fun z => z.1) hE).symm
              have hE2 : ev = vl := (congrArg (fun z => z.2.1) hE).symm
              have hE3 : ep = pt := (congrArg (fun z => z.2.2) hE).symm
              subst hE1 hE2 hE3
              show Go p e below _ (Tl12.setTop (mkF m 110 _ []))
              refine gJ (q := 112) Xl12 hx (hb hby d4_110) rfl rfl ?_
              refine gJ (q := 114) Xl12 hx (hb hby d4_112) rfl rfl ?_
              refine Go.step (fun t k => XS.isub Xl12.here hx rfl (hb hby d4_114) rfl k) ?_
              show Go p e below _ (Tl12.setTop (mkF m 115 _ [(.int (ei - v10))]))
              refine gJ (q := 117) Xl12 hx (hb hby d4_115) rfl rfl ?_
              obtain ⟨v34, hv34⟩ : ∃ z : Int32, z = (if ep < (0 : Int32) then (0 : Int32) else (1 : Int32)) := ⟨_, rfl⟩
              have J117 : Go p e below (AtF p l e ({ frames := 0, cells := 0, slots := 0, locals := 0 } : Room) s m #[(.ref a1), (.ref a2), (.int p3), (.int p4)] below meth c n0 0 0 h0 (mkF m 125 #[.val (.ref a1), .val (.ref a2), .val (.int p3), .val (.int p4), .val (.int v7), .val (.int v10), .val (.long ev), .second, .val (.int ep), .val (.int ei), .val (.int v14)] [(.int v34), (.int (ei - v10))])) (Tl12.setTop (mkF m 117 #[.val (.ref a1), .val (.ref a2), .val (.int p3), .val (.int p4), .val (.int v7), .val (.int v10), .val (.long ev), .second, .val (.int ep), .val (.int ei), .val (.int v14)] [(.int ep), (.int (ei - v10))])) := by
               by_cases hc33 : ep < (0 : Int32)
               · refine Go.step (fun t k => XS.ifNo Xl12.here hx rfl (hb hby d4_117) rfl ((if0 _ _).trans (tlt hc33).2.1) k) ?_
                 show Go p e below _ (Tl12.setTop (mkF m 120 _ [(.int (ei - v10))]))
                 refine gC (q := 121) (v := 0) Xl12 hx (hb hby d4_120) rfl rfl ?_
                 refine Go.step (fun t k => XS.goto Xl12.here hx rfl (pc0 := 121) (pc' := 125) rfl (hb hby d4_121) (by decide) (by decide) k) ?_
                 show Go p e below _ (Tl12.setTop (mkF m 125 _ [(.int (0 : Int32)), (.int (ei - v10))]))
                 exact Go.here ⟨_, _, by simp only [hv34, if_pos hc33], Xl12, Nl12, el12⟩
               · refine Go.step (fun t k => XS.ifYes Xl12.here hx rfl (pc0 := 117) (pc' := 124) rfl (hb hby d4_117) rfl ((if0 _ _).trans (flt hc33).2.1) (by decide) (by decide) k) ?_
                 show Go p e below _ (Tl12.setTop (mkF m 124 _ [(.int (ei - v10))]))
                 refine gC (q := 125) (v := 1) Xl12 hx (hb hby d4_124) rfl rfl ?_
                 show Go p e below _ (Tl12.setTop (mkF m 125 _ [(.int (1 : Int32)), (.int (ei - v10))]))
                 exact Go.here ⟨_, _, by simp only [hv34, if_neg hc33], Xl12, Nl12, el12⟩
              obtain ⟨_, st35, T35, Lj35, rfl, X35, N35, e35⟩ := J117
              refine Go.trans st35 ?_
              show Go p e below _ (T35.setTop (mkF m 125 _ [(.int v34), (.int (ei - v10))]))
              refine Go.step (fun t k => XS.isub X35.here hx rfl (hb hby d4_125) rfl k) ?_
              show Go p e below _ (T35.setTop (mkF m 126 _ [(.int ((ei - v10) - v34))]))
              refine nameIt (fun zz : Int32 => Go p e below _ (T35.setTop (mkF m 126 #[.val (.ref a1), .val (.ref a2), .val (.int p3), .val (.int p4), .val (.int v7), .val (.int v10), .val (.long ev), .second, .val (.int ep), .val (.int ei), .val (.int v14)] [(.int zz)]))) ((ei - v10) - v34) ?_
              intro v36 hv36
              show Go p e below _ (T35.setTop (mkF m 126 _ [(.int v36)]))
              refine Go.step (fun t k => XS.istore X35.here hx rfl (hb hby d4_126) rfl (l' := #[.val (.ref a1), .val (.ref a2), .val (.int p3), .val (.int p4), .val (.int v7), .val (.int v10), .val (.long ev), .second, .val (.int ep), .val (.int ei), .val (.int v36)]) rfl k) ?_
              show Go p e below _ (T35.setTop (mkF m 128 _ []))
              refine gJ (q := 130) X35 hx (hb hby d4_128) rfl rfl ?_
              refine gC (q := 131) (v := 1) X35 hx (hb hby d4_130) rfl rfl ?_
              refine Go.step (fun t k => XS.icmpNo X35.here hx rfl (hb hby d4_131) rfl (flt (by subst_vars; exact hd1 : ¬ (v36 < (1 : Int32)))).1 k) ?_
              show Go p e below _ (T35.setTop (mkF m 134 _ []))
              refine gJ (q := 136) X35 hx (hb hby d4_134) rfl rfl ?_
              refine Go.step (fun t k => XS.bipush X35.here hx rfl (hb hby d4_136)  k) ?_
              show Go p e below _ (T35.setTop (mkF m 138 _ [(.int (18 : Int32)), (.int v36)]))
              refine Go.step (fun t k => XS.icmpNo X35.here hx rfl (hb hby d4_138) rfl (tlt (by subst_vars; exact hd2 : (18 : Int32) < v36)).2.2.2 k) ?_
              show Go p e below _ (T35.setTop (mkF m 141 _ []))
              refine gC (q := 142) (v := -1) X35 hx (hb hby d4_141) rfl rfl ?_
              subst hv36
              subst hv34
              subst hv14
              subst hv10
              subst hv7
              exact retGI X35 hx Bd.notSynchronized Bd.returns (hb hby d4_142) ⟨rfl, N35, e35⟩ (by decide) (by decide)
          · refine Go.step (fun t k => XS.icmpNo Xl12.here hx rfl (hb hby d4_68) rfl (flt hc26).2.2.1 k) ?_
            show Go p e below _ (Tl12.setTop (mkF m 71 _ []))
            refine Go.step (fun t k => XS.lload Xl12.here hx rfl (hb hby d4_71) rfl k) ?_
            show Go p e below _ (Tl12.setTop (mkF m 73 _ [(.long vl)]))
            refine Go.step (Xl12.ldc2Long hx hown (mvT hZ (hw _ (List.mem_of_getElem? (i := 40) rfl))) (g := (mkF m 73 #[.val (.ref a1), .val (.ref a2), .val (.int p3), .val (.int p4), .val (.int v7), .val (.int v10), .val (.long vl), .second, .val (.int pt), .val (.int ix), .val (.int v14)] [(.long vl)])) rfl (hb hby d4_73)) ?_
            show Go p e below _ (Tl12.setTop (mkF m 76 _ [(.long (10 : Int64)), (.long vl)]))
            refine Go.step (fun t k => XS.lmul Xl12.here hx rfl (hb hby d4_76) rfl k) ?_
            show Go p e below _ (Tl12.setTop (mkF m 77 _ [(.long (vl * (10 : Int64)))]))
            refine gJ (q := 79) Xl12 hx (hb hby d4_77) rfl rfl ?_
            refine Go.step (fun t k => XS.i2l Xl12.here hx rfl (hb hby d4_79) rfl k) ?_
            show Go p e below _ (Tl12.setTop (mkF m 80 _ [(.long (v14.toInt64)), (.long (vl * (10 : Int64)))]))
            refine Go.step (fun t k => XS.ladd Xl12.here hx rfl (hb hby d4_80) rfl k) ?_
            show Go p e below _ (Tl12.setTop (mkF m 81 _ [(.long ((vl * (10 : Int64)) + (v14.toInt64)))]))
            refine nameIt (fun zz : Int64 => Go p e below _ (Tl12.setTop (mkF m 81 #[.val (.ref a1), .val (.ref a2), .val (.int p3), .val (.int p4), .val (.int v7), .val (.int v10), .val (.long vl), .second, .val (.int pt), .val (.int ix), .val (.int v14)] [(.long zz)]))) ((vl * (10 : Int64)) + (v14.toInt64)) ?_
            intro v37 hv37
            show Go p e below _ (Tl12.setTop (mkF m 81 _ [(.long v37)]))
            refine Go.step (fun t k => XS.lstore Xl12.here hx rfl (hb hby d4_81) rfl (l' := #[.val (.ref a1), .val (.ref a2), .val (.int p3), .val (.int p4), .val (.int v7), .val (.int v10), .val (.long v37), .second, .val (.int pt), .val (.int ix), .val (.int v14)]) rfl k) ?_
            show Go p e below _ (Tl12.setTop (mkF m 83 _ []))
            refine Go.step (fun t k => XS.goto Xl12.here hx rfl (pc0 := 83) (pc' := 104) rfl (hb hby d4_83) (by decide) (by decide) k) ?_
            show Go p e below _ (Tl12.setTop (mkF m 104 _ []))
            refine Go.step (fun t k => XS.iinc Xl12.here hx rfl (hb hby d4_104) rfl (l' := #[.val (.ref a1), .val (.ref a2), .val (.int p3), .val (.int p4), .val (.int v7), .val (.int v10), .val (.long v37), .second, .val (.int pt), .val (.int (ix + (1 : Int32))), .val (.int v14)]) rfl k) ?_
            show Go p e below _ (Tl12.setTop (mkF m 107 _ []))
            refine Go.step (fun t k => XS.goto Xl12.here hx rfl (pc0 := 107) (pc' := 44) rfl (hb hby d4_107) (by decide) (by decide) k) ?_
            show Go p e below _ (Tl12.setTop (mkF m 44 _ []))
            show Go p e below _ (Tl12.setTop (mkF m 44 _ []))
            exact ih _ (by omega) fu (ix + (1 : Int32)) v37 pt _ (One.val rfl) _ _ rfl (by rw [hv37, hv14]; have q := hR; rw [rd_dig fu hc13 (by rw [← hv14]; exact hc15) (by rw [← hv14]; exact hc26)] at q; exact q) (by rw [own_i1 hc13]; omega) (by rw [own_i1 hc13]; omega) Xl12 Nl12 el12
      · refine Go.step (fun t k => XS.icmpYes Xl12.here hx rfl (pc0 := 47) (pc' := 110) rfl (hb hby d4_47) rfl (flt hc13).2.1 (by decide) (by decide) k) ?_
        show Go p e below _ (Tl12.setTop (mkF m 110 _ []))
        have hE := hR
        rw [rd_end _ hc13] at hE
        have hE1 : ei = ix := (congrArg (fun z => z.1) hE).symm
        have hE2 : ev = vl := (congrArg (fun z => z.2.1) hE).symm
        have hE3 : ep = pt := (congrArg (fun z => z.2.2) hE).symm
        subst hE1 hE2 hE3
        show Go p e below _ (Tl12.setTop (mkF m 110 _ []))
        refine gJ (q := 112) Xl12 hx (hb hby d4_110) rfl rfl ?_
        refine gJ (q := 114) Xl12 hx (hb hby d4_112) rfl rfl ?_
        refine Go.step (fun t k => XS.isub Xl12.here hx rfl (hb hby d4_114) rfl k) ?_
        show Go p e below _ (Tl12.setTop (mkF m 115 _ [(.int (ei - v10))]))
        refine gJ (q := 117) Xl12 hx (hb hby d4_115) rfl rfl ?_
        obtain ⟨v39, hv39⟩ : ∃ z : Int32, z = (if ep < (0 : Int32) then (0 : Int32) else (1 : Int32)) := ⟨_, rfl⟩
        have J117 : Go p e below (AtF p l e ({ frames := 0, cells := 0, slots := 0, locals := 0 } : Room) s m #[(.ref a1), (.ref a2), (.int p3), (.int p4)] below meth c n0 0 0 h0 (mkF m 125 #[.val (.ref a1), .val (.ref a2), .val (.int p3), .val (.int p4), .val (.int v7), .val (.int v10), .val (.long ev), .second, .val (.int ep), .val (.int ei), sl10] [(.int v39), (.int (ei - v10))])) (Tl12.setTop (mkF m 117 #[.val (.ref a1), .val (.ref a2), .val (.int p3), .val (.int p4), .val (.int v7), .val (.int v10), .val (.long ev), .second, .val (.int ep), .val (.int ei), sl10] [(.int ep), (.int (ei - v10))])) := by
         by_cases hc38 : ep < (0 : Int32)
         · refine Go.step (fun t k => XS.ifNo Xl12.here hx rfl (hb hby d4_117) rfl ((if0 _ _).trans (tlt hc38).2.1) k) ?_
           show Go p e below _ (Tl12.setTop (mkF m 120 _ [(.int (ei - v10))]))
           refine gC (q := 121) (v := 0) Xl12 hx (hb hby d4_120) rfl rfl ?_
           refine Go.step (fun t k => XS.goto Xl12.here hx rfl (pc0 := 121) (pc' := 125) rfl (hb hby d4_121) (by decide) (by decide) k) ?_
           show Go p e below _ (Tl12.setTop (mkF m 125 _ [(.int (0 : Int32)), (.int (ei - v10))]))
           exact Go.here ⟨_, _, by simp only [hv39, if_pos hc38], Xl12, Nl12, el12⟩
         · refine Go.step (fun t k => XS.ifYes Xl12.here hx rfl (pc0 := 117) (pc' := 124) rfl (hb hby d4_117) rfl ((if0 _ _).trans (flt hc38).2.1) (by decide) (by decide) k) ?_
           show Go p e below _ (Tl12.setTop (mkF m 124 _ [(.int (ei - v10))]))
           refine gC (q := 125) (v := 1) Xl12 hx (hb hby d4_124) rfl rfl ?_
           show Go p e below _ (Tl12.setTop (mkF m 125 _ [(.int (1 : Int32)), (.int (ei - v10))]))
           exact Go.here ⟨_, _, by simp only [hv39, if_neg hc38], Xl12, Nl12, el12⟩
        obtain ⟨_, st40, T40, Lj40, rfl, X40, N40, e40⟩ := J117
        refine Go.trans st40 ?_
        show Go p e below _ (T40.setTop (mkF m 125 _ [(.int v39), (.int (ei - v10))]))
        refine Go.step (fun t k => XS.isub X40.here hx rfl (hb hby d4_125) rfl k) ?_
        show Go p e below _ (T40.setTop (mkF m 126 _ [(.int ((ei - v10) - v39))]))
        refine nameIt (fun zz : Int32 => Go p e below _ (T40.setTop (mkF m 126 #[.val (.ref a1), .val (.ref a2), .val (.int p3), .val (.int p4), .val (.int v7), .val (.int v10), .val (.long ev), .second, .val (.int ep), .val (.int ei), sl10] [(.int zz)]))) ((ei - v10) - v39) ?_
        intro v41 hv41
        show Go p e below _ (T40.setTop (mkF m 126 _ [(.int v41)]))
        refine Go.step (fun t k => XS.istore X40.here hx rfl (hb hby d4_126) rfl (l' := #[.val (.ref a1), .val (.ref a2), .val (.int p3), .val (.int p4), .val (.int v7), .val (.int v10), .val (.long ev), .second, .val (.int ep), .val (.int ei), .val (.int v41)]) (by rcases hsl10 with rfl | ⟨w, rfl, hw⟩ <;> first | rfl | (cases w <;> first | rfl | (simp [Value.category] at hw))) k) ?_
        show Go p e below _ (T40.setTop (mkF m 128 _ []))
        refine gJ (q := 130) X40 hx (hb hby d4_128) rfl rfl ?_
        refine gC (q := 131) (v := 1) X40 hx (hb hby d4_130) rfl rfl ?_
        refine Go.step (fun t k => XS.icmpNo X40.here hx rfl (hb hby d4_131) rfl (flt (by subst_vars; exact hd1 : ¬ (v41 < (1 : Int32)))).1 k) ?_
        show Go p e below _ (T40.setTop (mkF m 134 _ []))
        refine gJ (q := 136) X40 hx (hb hby d4_134) rfl rfl ?_
        refine Go.step (fun t k => XS.bipush X40.here hx rfl (hb hby d4_136)  k) ?_
        show Go p e below _ (T40.setTop (mkF m 138 _ [(.int (18 : Int32)), (.int v41)]))
        refine Go.step (fun t k => XS.icmpNo X40.here hx rfl (hb hby d4_138) rfl (tlt (by subst_vars; exact hd2 : (18 : Int32) < v41)).2.2.2 k) ?_
        show Go p e below _ (T40.setTop (mkF m 141 _ []))
        refine gC (q := 142) (v := -1) X40 hx (hb hby d4_141) rfl rfl ?_
        subst hv41
        subst hv39
        subst hv10
        subst hv7
        exact retGI X40 hx Bd.notSynchronized Bd.returns (hb hby d4_142) ⟨rfl, N40, e40⟩ (by decide) (by decide)
  exact LOOP44 _ ff0 v10 (0 : Int64) (-1 : Int32) _ One.u _ _ rfl (by subst_vars; exact hR0) (by subst_vars; exact rdS_nn h3) (by subst_vars; have := rdS_nn (g := g_t) (b := p4) h3; unfold rdS rdN at this; omega) X11 N11 e11
theorem d5_0 : decode prog_81_method_3_code 0 = .ok (.aload_n 0, 1) := by decide +kernel
theorem d5_1 : decode prog_81_method_3_code 1 = .ok (.getfield 13, 3) := by decide +kernel
theorem d5_4 : decode prog_81_method_3_code 4 = .ok (.lreturn, 1) := by decide +kernel
theorem ef_5 (m : MethodId) (a1 : Addr) : entryFrame m #[(.ref a1)] 1 = mkF m 0 #[.val (.ref a1)] [] := by first | (simp [entryFrame, mkF, argsToLocals, Value.category]; done) | rfl
def f5 (w_unscaled_a1 : Int64) : Int64 := w_unscaled_a1
set_option maxRecDepth 65536 in
set_option maxHeartbeats 40000000 in
theorem rm5 (l : Launch) (Z : State) (a0 : Array Value) (hw : ∀ d ∈ tables_1, d.before a0 Z = true) (ws : List Jvm.Cond) (a1 : Addr) (w_unscaled_a1 : Int64) (h0 : Heap) (n0 : Nat) (Z0 : n0 ≤ h0.size) (F_unscaled_a1 : Fld Z h0 a1 "com/example/biller/biller/files/PlainValue" "unscaled" "J" (.long w_unscaled_a1)) :
    MetFree l (⟨"com/example/biller/biller/files/PlainValue", "unscaled", "()J"⟩ : MethodName) (head1 (Jvm.Cond.code (⟨"com/example/biller/biller/files/PlainValue", "unscaled", "()J"⟩ : MethodName) prog_81_method_3_code 1 (some .long) :: ws) ({ frames := 0, cells := 0, slots := 0, locals := 0 } : Room)) (fun a U => a = #[(.ref a1)] ∧ Z.Warmed39 U.vm ∧ U.heap = h0) (fun _ _ _ _ _ => True) (fun _ U o U' => ∃ v L, o = .returned v ∧ QP (.long (f5 w_unscaled_a1)) h0 n0 v U'.heap L ∧ FrameEnd U o U' L ({ frames := 0, cells := 0, slots := 0, locals := 0 } : Room).cells ({ frames := 0, cells := 0, slots := 0, locals := 0 } : Room).slots) := by
  refine MetFree.of_bodySF (plainFor_of_name pn_1) hisR ?_
  intro p e s m args below meth c s₁ Bd hml0 hP hK
  obtain ⟨rfl, hZ, hh⟩ := hP
  have hx := Bd.exec
  have hby := Bd.bytes
  have hml : c.maxLocals = 1 := hml0
  have hown : s.vm.findClass "com/example/biller/biller/files/PlainValue" = some m.cls := findClass_of_methodNamed Bd.named
  have hnm := (name_of_methodNamed Bd.named Bd.method).1
  have X0 : Stand p l e ({ frames := 0, cells := 0, slots := 0, locals := 0 } : Room) s m #[(.ref a1)] below meth c s₁ [] 0 0 := Stand.of_body Bd
  have e0 : s₁.heap = h0 := by rw [← hh, Bd.state]; rfl
  have N0 := Fr.nil n0
  refine Go.done (Go.step (fun t k => castTop (ef_5 m a1) k) ?_)
  have KK0 : Keep h0 h0 [] := Keep.refl _ _
  show Go p e below _ (s₁.setTop (mkF m 0 _ []))
  refine gA (q := 1) X0 hx (hb hby d5_0) rfl rfl rfl ?_
  obtain ⟨T2, X2, e2, st2⟩ := getF X0 hx hZ hown (host := "") (Or.inl (hw _ (List.mem_of_getElem? (i := 41) rfl))) Via.refl e0 F_unscaled_a1 (g := (mkF m 1 #[.val (.ref a1)] [(.ref a1)])) rfl rfl (hb hby d5_1)
  refine Go.step st2 ?_
  show Go p e below _ (T2.setTop (mkF m 4 _ [(.long w_unscaled_a1)]))
  exact retGJ X2 hx Bd.notSynchronized Bd.returns (hb hby d5_4) ⟨by first | rfl | (simp only [f5]; done) | (simp [f5]; done), N0, e2⟩ (by decide) (by decide)
theorem d6_0 : decode prog_81_method_4_code 0 = .ok (.aload_n 0, 1) := by decide +kernel
theorem d6_1 : decode prog_81_method_4_code 1 = .ok (.getfield 17, 3) := by decide +kernel
theorem d6_4 : decode prog_81_method_4_code 4 = .ok (.ireturn, 1) := by decide +kernel
theorem ef_6 (m : MethodId) (a1 : Addr) : entryFrame m #[(.ref a1)] 1 = mkF m 0 #[.val (.ref a1)] [] := by first | (simp [entryFrame, mkF, argsToLocals, Value.category]; done) | rfl
def f6 (w_scale_a1 : Int32) : Int32 := w_scale_a1
set_option maxRecDepth 65536 in
set_option maxHeartbeats 40000000 in
theorem rm6 (l : Launch) (Z : State) (a0 : Array Value) (hw : ∀ d ∈ tables_1, d.before a0 Z = true) (ws : List Jvm.Cond) (a1 : Addr) (w_scale_a1 : Int32) (h0 : Heap) (n0 : Nat) (Z0 : n0 ≤ h0.size) (F_scale_a1 : Fld Z h0 a1 "com/example/biller/biller/files/PlainValue" "scale" "I" (.int w_scale_a1)) :
    MetFree l (⟨"com/example/biller/biller/files/PlainValue", "scale", "()I"⟩ : MethodName) (head1 (Jvm.Cond.code (⟨"com/example/biller/biller/files/PlainValue", "scale", "()I"⟩ : MethodName) prog_81_method_4_code 1 (some .int) :: ws) ({ frames := 0, cells := 0, slots := 0, locals := 0 } : Room)) (fun a U => a = #[(.ref a1)] ∧ Z.Warmed39 U.vm ∧ U.heap = h0) (fun _ _ _ _ _ => True) (fun _ U o U' => ∃ v L, o = .returned v ∧ QP (.int (f6 w_scale_a1)) h0 n0 v U'.heap L ∧ FrameEnd U o U' L ({ frames := 0, cells := 0, slots := 0, locals := 0 } : Room).cells ({ frames := 0, cells := 0, slots := 0, locals := 0 } : Room).slots) := by
  refine MetFree.of_bodySF (plainFor_of_name pn_1) hisR ?_
  intro p e s m args below meth c s₁ Bd hml0 hP hK
  obtain ⟨rfl, hZ, hh⟩ := hP
  have hx := Bd.exec
  have hby := Bd.bytes
  have hml : c.maxLocals = 1 := hml0
  have hown : s.vm.findClass "com/example/biller/biller/files/PlainValue" = some m.cls := findClass_of_methodNamed Bd.named
  have hnm := (name_of_methodNamed Bd.named Bd.method).1
  have X0 : Stand p l e ({ frames := 0, cells := 0, slots := 0, locals := 0 } : Room) s m #[(.ref a1)] below meth c s₁ [] 0 0 := Stand.of_body Bd
  have e0 : s₁.heap = h0 := by rw [← hh, Bd.state]; rfl
  have N0 := Fr.nil n0
  refine Go.done (Go.step (fun t k => castTop (ef_6 m a1) k) ?_)
  have KK0 : Keep h0 h0 [] := Keep.refl _ _
  show Go p e below _ (s₁.setTop (mkF m 0 _ []))
  refine gA (q := 1) X0 hx (hb hby d6_0) rfl rfl rfl ?_
  obtain ⟨T2, X2, e2, st2⟩ := getF X0 hx hZ hown (host := "") (Or.inl (hw _ (List.mem_of_getElem? (i := 43) rfl))) Via.refl e0 F_scale_a1 (g := (mkF m 1 #[.val (.ref a1)] [(.ref a1)])) rfl rfl (hb hby d6_1)
  refine Go.step st2 ?_
  show Go p e below _ (T2.setTop (mkF m 4 _ [(.int w_scale_a1)]))
  exact retGI X2 hx Bd.notSynchronized Bd.returns (hb hby d6_4) ⟨by first | rfl | (simp only [f6]; done) | (simp [f6]; done), N0, e2⟩ (by decide) (by decide)
def tK (m : Int64) (gs : Nat → Int32) (k : Nat) : Nat → Int32 := fun i => if i < k then nar .byte (f1 (Int32.ofNat i) m gs) else 0
theorem tK_0 (m : Int64) (gs : Nat → Int32) (i : Nat) : (0 : Int32) = tK m gs 0 i := by unfold tK; rw [if_neg (by omega)]
theorem tK_S (m : Int64) (gs : Nat → Int32) (k : Nat) {z : Int32} (hz : z = Int32.ofNat k) (i : Nat) : upA (tK m gs k) k (nar .byte (f1 z m gs)) i = tK m gs (k + 1) i := by
  unfold upA tK
  subst hz
  by_cases h : i = k
  · subst h; rw [if_pos rfl, if_pos (by omega)]
  · rw [if_neg h]
    by_cases h' : i < k
    · rw [if_pos h', if_pos (by omega)]
    · rw [if_neg h', if_neg (by omega)]

def pq (hp d0 q : Int32) : Int32 := if hp = (0 : Int32) then (-1 : Int32) else d0 + q
def Wf (n ng hp q sx d0 e : Int32) (m : Int64) : Prop := (0 ≤ n.toInt ∧ n.toInt ≤ 19) ∧ (ng = 0 ∨ ng = 1) ∧ (hp = 0 ∨ hp = 1) ∧ (0 ≤ q.toInt ∧ q.toInt ≤ n.toInt) ∧ (0 ≤ sx.toInt ∧ sx.toInt ≤ 3) ∧ d0.toInt = sx.toInt + ng.toInt ∧ e.toInt = d0.toInt + n.toInt + hp.toInt ∧ 0 ≤ m.toInt ∧ (n.toInt ≤ 18 → m.toInt < (10 ^ n.toInt.toNat : Nat))
theorem own_n {a n : Int32} (h : n = ((a &&& (31 : Int32)) % (20 : Int32))) : 0 ≤ n.toInt ∧ n.toInt ≤ 19 := by
  have h1 := c_mask a 31 5 (by decide) (by decide)
  have h2 := modI (x := a &&& (31 : Int32)) (y := 20) 20 (by decide) (by omega)
  rw [← h] at h2
  omega
theorem own_n1 {n : Int32} (h : 0 ≤ n.toInt ∧ n.toInt ≤ 19) : ¬ (n + (1 : Int32) = (0 : Int32)) := by
  have one : (1 : Int32).toInt = 1 := by decide
  intro q
  have := congrArg Int32.toInt q
  rw [addI (by rw [one]; omega) (by rw [one]; omega), one, show (0 : Int32).toInt = 0 by decide] at this
  omega
theorem own_n19 {n : Int32} (h : 0 ≤ n.toInt ∧ n.toInt ≤ 19) (q : ¬ n = (19 : Int32)) : n.toNatClampNeg < 19 := by
  have := clamp_of h.1
  have : n.toInt ≠ 19 := fun z => q (Int32.toInt_inj.mp (by rw [z]; decide))
  omega
theorem own_wf {a n ng hp q sx d0 h0 e : Int32} {v x m : Int64} (hn : n = ((a &&& (31 : Int32)) % (20 : Int32)))
    (hng : ng = (if (((a.toUInt32 >>> ((5 : Int32) &&& 31).toUInt32).toInt32) &&& (1 : Int32)) = (0 : Int32) then (0 : Int32) else (1 : Int32)))
    (hhp : hp = (if (((a.toUInt32 >>> ((6 : Int32) &&& 31).toUInt32).toInt32) &&& (1 : Int32)) = (0 : Int32) then (0 : Int32) else (1 : Int32)))
    (hq : q = ((((a.toUInt32 >>> ((7 : Int32) &&& 31).toUInt32).toInt32) &&& (31 : Int32)) % (n + (1 : Int32))))
    (hs : sx = (((a.toUInt32 >>> ((12 : Int32) &&& 31).toUInt32).toInt32) &&& (3 : Int32)))
    (hx : x = (v &&& (9223372036854775807 : Int64))) (hm : m = (if n = (19 : Int32) then x else (x % (powF n.toNatClampNeg))))
    (hd : d0 = (if ng = (0 : Int32) then sx else (sx + (1 : Int32)))) (hh : h0 = (if hp = (0 : Int32) then (0 : Int32) else (1 : Int32))) (he : e = ((d0 + n) + h0)) : Wf n ng hp q sx d0 e m := by
  have one : (1 : Int32).toInt = 1 := by decide
  have zero : (0 : Int32).toInt = 0 := by decide
  have a1 := own_n hn
  have a2 : ng = 0 ∨ ng = 1 := by rw [hng]; split <;> simp
  have a3 : hp = 0 ∨ hp = 1 := by rw [hhp]; split <;> simp
  have a4 : 0 ≤ q.toInt ∧ q.toInt ≤ n.toInt := by
    have h1 := c_mask ((a.toUInt32 >>> ((7 : Int32) &&& 31).toUInt32).toInt32) 31 5 (by decide) (by decide)
    have e1 : (n + (1 : Int32)).toInt = n.toInt + 1 := by rw [addI] <;> rw [one] <;> omega
    have h2 := (c_iremV (((a.toUInt32 >>> ((7 : Int32) &&& 31).toUInt32).toInt32) &&& (31 : Int32)) (n + (1 : Int32))).1 (by omega) (by omega)
    rw [← hq] at h2
    omega
  have a5 : 0 ≤ sx.toInt ∧ sx.toInt ≤ 3 := by
    have h1 := c_mask ((a.toUInt32 >>> ((12 : Int32) &&& 31).toUInt32).toInt32) 3 2 (by decide) (by decide)
    rw [← hs] at h1; omega
  have a6 : d0.toInt = sx.toInt + ng.toInt := by
    rcases a2 with h | h
    · rw [hd, if_pos h, h, zero]; omega
    · rw [hd, if_neg (by rw [h]; decide), h, addI] <;> rw [one] <;> omega
  have n01 : 0 ≤ ng.toInt ∧ ng.toInt ≤ 1 := by rcases a2 with h | h <;> rw [h] <;> decide
  have h01 : h0 = hp := by rw [hh]; rcases a3 with h | h <;> rw [h] <;> decide
  have p01 : 0 ≤ hp.toInt ∧ hp.toInt ≤ 1 := by rcases a3 with h | h <;> rw [h] <;> decide
  have a7 : e.toInt = d0.toInt + n.toInt + hp.toInt := by
    have e1 : (d0 + n).toInt = d0.toInt + n.toInt := addI (by omega) (by omega)
    rw [he, h01, addI] <;> rw [e1] <;> omega
  have x0 : 0 ≤ x.toInt := by
    have h1 := c_maskL v 9223372036854775807 63 (by decide) (by decide)
    rw [← hx] at h1; omega
  refine ⟨a1, a2, a3, a4, a5, a6, a7, ?_⟩
  by_cases h19 : n = (19 : Int32)
  · rw [if_pos h19] at hm
    rw [hm]
    refine ⟨x0, fun q => ?_⟩
    rw [h19, show (19 : Int32).toInt = 19 by decide] at q
    omega
  · rw [if_neg h19] at hm
    have hlt := own_n19 a1 h19
    have ep := powF_i hlt
    have h2 := modL (x := x) (y := powF n.toNatClampNeg) _ ep x0
    rw [← hm] at h2
    have pos : (0 : Int) < (10 ^ n.toNatClampNeg : Nat) := by exact_mod_cast (Nat.pow_pos (by decide) : 0 < 10 ^ n.toNatClampNeg)
    have e1 := Int.emod_nonneg x.toInt (Int.ne_of_gt pos)
    have e2 := Int.emod_lt_of_pos x.toInt pos
    rw [← h2] at e1 e2
    exact ⟨e1, fun _ => e2⟩
theorem own_atw {n ng hp q sx d0 h4 e : Int32} {m : Int64} {gs : Nat → Int32} (h : Wf n ng hp q sx d0 e m) (h2 : gs 2 = d0) (h3 : gs 3 = n) (e4 : gs 4 = h4) (hh : h4 = (if hp = (0 : Int32) then (0 : Int32) else (1 : Int32))) (h5 : gs 5 = q) (h6 : gs 6 = e) : AtW gs := by
  obtain ⟨a1, a2, a3, a4, a5, a6, a7, -, -⟩ := h
  have h01 : h4 = hp := by rw [hh]; rcases a3 with h | h <;> rw [h] <;> decide
  have n01 : 0 ≤ ng.toInt ∧ ng.toInt ≤ 1 := by rcases a2 with h | h <;> rw [h] <;> decide
  unfold AtW
  rw [h2, h3, e4, h5, h6, h01]
  exact ⟨by omega, by omega, a1.1, a1.2, a3, a4.1, a4.2, a7⟩
theorem by8 {x : Int32} (h : -128 ≤ x.toInt) (h' : x.toInt < 128) : nar .byte x = x := by
  show x.toInt8.toInt32 = x
  have := c_i2b x
  rw [← Int32.toInt_inj]; omega
/-- how far it reads -/
def Ln (len e hp sx stop : Int32) : Prop := len = e ∨ (e.toInt < len.toInt ∧ len.toInt ≤ e.toInt + 2 ∧ (stop < (48 : Int32) ∨ (57 : Int32) < stop) ∧ (stop = (46 : Int32) → ¬ hp = (0 : Int32)) ∧ (stop = (45 : Int32) → ¬ e = sx))
theorem own_ln {a len e hp sx stop cut bs ex : Int32} (he : 0 ≤ e.toInt ∧ e.toInt ≤ 24) (hex : ex = (((a.toUInt32 >>> ((15 : Int32) &&& 31).toUInt32).toInt32) &&& (1 : Int32)))
    (hbs : bs = (if stop < (48 : Int32) then (if stop = (46 : Int32) then (if hp = (0 : Int32) then (1 : Int32) else (if stop = (45 : Int32) then (if e = sx then (1 : Int32) else (0 : Int32)) else (0 : Int32))) else (if stop = (45 : Int32) then (if e = sx then (1 : Int32) else (0 : Int32)) else (0 : Int32))) else (if (57 : Int32) < stop then (if stop = (46 : Int32) then (if hp = (0 : Int32) then (1 : Int32) else (if stop = (45 : Int32) then (if e = sx then (1 : Int32) else (0 : Int32)) else (0 : Int32))) else (if stop = (45 : Int32) then (if e = sx then (1 : Int32) else (0 : Int32)) else (0 : Int32))) else (1 : Int32))))
    (hlen : len = (if cut = (0 : Int32) then (if bs = (0 : Int32) then ((e + (1 : Int32)) + ex) else e) else e)) : Ln len e hp sx stop := by
  by_cases hc : cut = (0 : Int32)
  · rw [if_pos hc] at hlen
    by_cases hb : bs = (0 : Int32)
    · rw [if_pos hb] at hlen
      have one : (1 : Int32).toInt = 1 := by decide
      have h1 := c_mask ((a.toUInt32 >>> ((15 : Int32) &&& 31).toUInt32).toInt32) 1 1 (by decide) (by decide)
      rw [← hex] at h1
      have e1 : (e + (1 : Int32)).toInt = e.toInt + 1 := by rw [addI] <;> rw [one] <;> omega
      have e2 : len.toInt = e.toInt + 1 + ex.toInt := by rw [hlen, addI] <;> rw [e1] <;> omega
      have n10 : ¬ ((1 : Int32) = (0 : Int32)) := by decide
      rw [hb] at hbs
      refine Or.inr ⟨by omega, by omega, ?_, ?_, ?_⟩
      · by_cases h1 : stop < (48 : Int32)
        · exact Or.inl h1
        · by_cases h2 : (57 : Int32) < stop
          · exact Or.inr h2
          · rw [if_neg h1, if_neg h2] at hbs; exact absurd hbs.symm n10
      · intro h46 h0
        subst h46
        rw [if_pos (by decide), if_pos rfl, if_pos h0] at hbs
        exact absurd hbs.symm n10
      · intro h45 h0
        subst h45
        rw [if_pos (by decide), if_neg (by decide), if_pos rfl, if_pos h0] at hbs
        exact absurd hbs.symm n10
    · rw [if_neg hb] at hlen; exact Or.inl hlen
  · rw [if_neg hc] at hlen; exact Or.inl hlen
theorem own_digit {m : Int64} {M j : Nat} (hm : m.toInt = M) (hj : j < 19) : nar .byte (nar .byte (((48 : Int32) + (((m / (powF j)) % (10 : Int64)).toInt32)).toInt8.toInt32)) = Int32.ofNat (48 + M / 10 ^ j % 10) := by
  have ep := powF_i hj
  have pos : 0 < 10 ^ j := Nat.pow_pos (by decide)
  have ne : powF j ≠ -1 := fun z => by
    rw [z, show (-1 : Int64).toInt = -1 by decide] at ep
    have : (0 : Int) ≤ (10 ^ j : Nat) := Int.natCast_nonneg _
    rw [← ep] at this
    exact absurd this (by decide)
  have d1 : (m / (powF j)).toInt = m.toInt / (10 ^ j : Nat) := (c_ldiv _ _ _ ep ne).1 (by rw [hm]; exact Int.natCast_nonneg _)
  have d1' : (m / (powF j)).toInt = (M / 10 ^ j : Nat) := by
    rw [d1, hm]; exact (Int.natCast_ediv _ _).symm
  generalize M / 10 ^ j = y at *
  generalize m / powF j = w at *
  clear d1 ne pos ep hj hm
  have d2 := modL (x := w) (y := (10 : Int64)) 10 (by decide) (by rw [d1']; exact Int.natCast_nonneg _)
  have hd : y % 10 < 10 := Nat.mod_lt _ (by decide)
  have d3 : (w % (10 : Int64)).toInt = (y % 10 : Nat) := by rw [d2, d1']; omega
  generalize y % 10 = d at *
  generalize w % (10 : Int64) = u at *
  clear d2 d1'
  have d4 := c_l2i u
  have r4 := rng32 u.toInt32
  have d5 : u.toInt32.toInt = d := by omega
  have d6 : (48 : Int32) + u.toInt32 = Int32.ofNat (48 + d) := by
    rw [← Int32.toInt_inj, i32v (by omega), addI] <;> rw [d5, show (48 : Int32).toInt = 48 by decide] <;> omega
  have v48 : (Int32.ofNat (48 + d)).toInt = (48 + d : Nat) := i32v (by omega)
  rw [d6]
  have b8 : nar .byte (Int32.ofNat (48 + d)) = Int32.ofNat (48 + d) := by8 (by rw [v48]; omega) (by rw [v48]; omega)
  have b8' : (Int32.ofNat (48 + d)).toInt8.toInt32 = Int32.ofNat (48 + d) := b8
  rw [b8', b8, b8]
theorem ofI {x : Int32} (h : 0 ≤ x.toInt) : Int32.ofNat x.toInt.toNat = x := by
  have := rng32 x
  rw [← Int32.toInt_inj, i32v (by omega)]; omega
theorem tK_at (m : Int64) (gs : Nat → Int32) {j : Nat} (hj : j < 26) : tK m gs 26 j = nar .byte (f1 (Int32.ofNat j) m gs) := by unfold tK; rw [if_pos hj]
theorem ltk {j k : Nat} {x : Int32} (hj : j < 26) (hk : x.toInt = k) : Int32.ofNat j < x ↔ j < k := by
  rw [Int32.lt_iff_toInt_lt, i32v (by omega), hk]; omega
theorem own_T45 {m : Int64} {gs : Nat → Int32} {S D j : Nat} (h0 : (gs 0).toInt = S) (h2 : (gs 2).toInt = D) (hS : S ≤ j) (hD : j < D) (h4 : D ≤ 4) : tK m gs 26 j = (45 : Int32) := by
  rw [tK_at m gs (by omega)]
  unfold f1
  rw [if_neg (by rw [ltk (by omega) h0]; omega), if_pos ((ltk (by omega) h2).mpr hD)]
  decide
theorem own_eq {gs : Nat → Int32} {D Q j : Nat} (h2 : (gs 2).toInt = D) (h5 : (gs 5).toInt = Q) (hD : D ≤ 4) (hQ : Q ≤ 19) (hj : j < 26) : Int32.ofNat j = gs 2 + gs 5 ↔ j = D + Q := by
  have e : (gs 2 + gs 5).toInt = (D + Q : Nat) := by rw [addI] <;> rw [h2, h5] <;> omega
  rw [← Int32.toInt_inj, i32v (by omega), e]; omega
theorem own_T46 {m : Int64} {gs : Nat → Int32} {S D N Q : Nat} (h0 : (gs 0).toInt = S) (h2 : (gs 2).toInt = D) (h5 : (gs 5).toInt = Q) (h6 : (gs 6).toInt = (D + N + 1 : Nat)) (h4 : ¬ gs 4 = 0) (hS : S ≤ D) (hD : D ≤ 4) (hN : N ≤ 19) (hQ : Q ≤ N) : tK m gs 26 (D + Q) = (46 : Int32) := by
  rw [tK_at m gs (by omega)]
  unfold f1
  rw [if_neg (by rw [ltk (by omega) h0]; omega), if_neg (by rw [ltk (by omega) h2]; omega), if_pos ((ltk (by omega) h6).mpr (by omega)), if_neg (by rw [if_neg h4]; decide), if_pos ((own_eq h2 h5 hD (by omega) (by omega)).mpr rfl)]
  decide
theorem own_Te {m : Int64} {gs : Nat → Int32} {S D E : Nat} (h0 : (gs 0).toInt = S) (h2 : (gs 2).toInt = D) (h6 : (gs 6).toInt = E) (hS : S ≤ D) (hD : D ≤ E) (hE : E ≤ 24) : tK m gs 26 E = nar .byte (nar .byte ((gs 7).toInt8.toInt32)) := by
  rw [tK_at m gs (by omega)]
  have e6 : Int32.ofNat E = gs 6 := by rw [← Int32.toInt_inj, i32v (by omega), h6]
  unfold f1
  rw [if_neg (by rw [ltk (by omega) h0]; omega), if_neg (by rw [ltk (by omega) h2]; omega), if_neg (by rw [ltk (by omega) h6]; omega), if_pos e6]
theorem own_kx {gs : Nat → Int32} {D N H Q r : Nat} (hA : AtW gs) (h2 : (gs 2).toInt = D) (h3 : (gs 3).toInt = N) (h5 : (gs 5).toInt = Q) (hH : (H = 0 ∧ gs 4 = 0) ∨ (H = 1 ∧ ¬ gs 4 = 0)) (hr : r < N + H) (hD : D ≤ 4) (hN : N ≤ 19)
    (b2 : ¬ Int32.ofNat (D + r) < gs 2) (b6 : Int32.ofNat (D + r) < gs 6) (hn : (if gs 4 = (0 : Int32) then (0 : Int32) else (1 : Int32)) = (0 : Int32) ∨ ¬ Int32.ofNat (D + r) = gs 2 + gs 5) :
    (((gs 3) - (1 : Int32)) - kI gs (Int32.ofNat (D + r))).toNatClampNeg = N - 1 - kk H Q r := by
  obtain ⟨k1, k2, k3⟩ := own_k hA b2 b6 hn
  have c := clamp_of k2
  clear hA hn b2 b6
  rw [k1, i32v (by omega), h3, h2, h5] at c
  generalize (((gs 3) - (1 : Int32)) - kI gs (Int32.ofNat (D + r))) = w at *
  clear k1
  unfold kk
  rcases hH with ⟨e, h⟩ | ⟨e, h⟩
  · rw [if_pos h] at c
    rw [if_neg (by omega)]; omega
  · rw [if_neg h] at c
    by_cases hQr : Q < r
    · rw [if_pos (by omega)] at c
      rw [if_pos ⟨e, hQr⟩]; omega
    · rw [if_neg (by omega)] at c
      rw [if_neg (by omega)]; omega
theorem own_Td {m : Int64} {gs : Nat → Int32} {S D N H Q M r : Nat} (hA : AtW gs) (h0 : (gs 0).toInt = S) (h2 : (gs 2).toInt = D) (h3 : (gs 3).toInt = N) (h5 : (gs 5).toInt = Q) (h6 : (gs 6).toInt = (D + N + H : Nat)) (hH : (H = 0 ∧ gs 4 = 0) ∨ (H = 1 ∧ ¬ gs 4 = 0)) (hm : m.toInt = M)
    (hS : S ≤ D) (hD : D ≤ 4) (hN : N ≤ 19) (hQ : Q ≤ N) (hr : r < N + H) (hq : ¬ (H = 1 ∧ r = Q)) : tK m gs 26 (D + r) = Int32.ofNat (48 + dg M N (kk H Q r)) := by
  have hH1 : H ≤ 1 := by rcases hH with ⟨e, -⟩ | ⟨e, -⟩ <;> omega
  have b2 : ¬ Int32.ofNat (D + r) < gs 2 := by rw [ltk (by omega) h2]; omega
  have b6 : Int32.ofNat (D + r) < gs 6 := (ltk (by omega) h6).mpr (by omega)
  have b0 : ¬ Int32.ofNat (D + r) < gs 0 := by rw [ltk (by omega) h0]; omega
  have hn : (if gs 4 = (0 : Int32) then (0 : Int32) else (1 : Int32)) = (0 : Int32) ∨ ¬ Int32.ofNat (D + r) = gs 2 + gs 5 := by
    rcases hH with ⟨-, h⟩ | ⟨e, -⟩
    · exact Or.inl (if_pos h)
    · refine Or.inr fun z => hq ⟨e, ?_⟩
      have := (own_eq h2 h5 hD (by omega) (by omega)).mp z
      omega
  have kx := own_kx hA h2 h3 h5 hH hr hD hN b2 b6 hn
  have kx' : (((gs 3) - (1 : Int32)) - ((Int32.ofNat (D + r) - (gs 2)) - (if (if (gs 4) = (0 : Int32) then (0 : Int32) else (1 : Int32)) = (0 : Int32) then (0 : Int32) else (if ((gs 2) + (gs 5)) < Int32.ofNat (D + r) then (1 : Int32) else (0 : Int32))))).toNatClampNeg = N - 1 - kk H Q r := kx
  have hlt : N - 1 - kk H Q r < 19 := by omega
  have ef : f1 (Int32.ofNat (D + r)) m gs = nar .byte (((48 : Int32) + (((m / (powF (N - 1 - kk H Q r))) % (10 : Int64)).toInt32)).toInt8.toInt32) := by
    unfold f1
    rw [if_neg b0, if_neg b2, if_pos b6, kx']
    rcases hn with hn | hn
    · rw [if_pos hn]
    · rw [if_neg hn, ite_self]
  rw [tK_at m gs (by omega), ef, own_digit hm hlt]
  rfl
theorem own_sgn {T : Nat → Int32} {len sx stop e hp : Int32} {N H Q D M LL : Nat} (hs : sx.toInt = D) (hl : len.toInt = LL) (he : e.toInt = (D + N + H : Nat)) (hL : Ln len e hp sx stop) (hst : T (D + N + H) = stop) (hdot : H = 1 → T (D + Q) = (46 : Int32)) (hdig : ∀ r, r < N + H → ¬ (H = 1 ∧ r = Q) → T (D + r) = Int32.ofNat (48 + dg M N (kk H Q r))) : rdN T sx len = 0 := by
  unfold rdN
  have hcl : sx.toNatClampNeg = D := by have := clamp_of (x := sx) (by omega); omega
  by_cases hlt : sx < len
  · rw [if_pos hlt, hcl, if_neg ?_]
    by_cases hNH : N + H = 0
    · have e' : D = D + N + H := by omega
      rw [e', hst]
      intro h45
      rcases hL with hx | ⟨h1, -, -, -, h5⟩
      · rw [hx, Int32.lt_iff_toInt_lt] at hlt; omega
      · exact h5 h45 (by rw [← Int32.toInt_inj]; omega)
    · by_cases hq0 : H = 1 ∧ 0 = Q
      · have := hdot hq0.1
        rw [← hq0.2, Nat.add_zero] at this
        rw [this]; decide
      · have := hdig 0 (by omega) hq0
        rw [Nat.add_zero] at this
        rw [this]
        intro z
        have hd := dg_lt M N (kk H Q 0)
        have := congrArg Int32.toInt z
        rw [i32v (by omega), show (45 : Int32).toInt = 45 by decide] at this
        omega
  · rw [if_neg hlt]
theorem own_stop {T : Nat → Int32} {len sx stop e hp : Int32} {H E LL : Nat} (hl : len.toInt = LL) (he : e.toInt = E) (hL : Ln len e hp sx stop) (hst : T E = stop) (hb : -128 ≤ stop.toInt ∧ stop.toInt < 128) (hH : (H = 0 ∧ hp = 0) ∨ (H = 1 ∧ ¬ hp = 0)) :
    LL = E ∨ (((T E - (48 : Int32)) < (0 : Int32) ∨ (9 : Int32) < (T E - (48 : Int32))) ∧ (¬ T E = (46 : Int32) ∨ H = 1)) := by
  rcases hL with h | ⟨h1, h2, h3, h4', h5⟩
  · left; rw [h] at hl; omega
  · right
    rw [hst]
    have e48 : (stop - (48 : Int32)).toInt = stop.toInt - 48 := by rw [subI] <;> rw [show (48 : Int32).toInt = 48 by decide] <;> omega
    refine ⟨?_, ?_⟩
    · rcases h3 with h3 | h3
      · left; rw [Int32.lt_iff_toInt_lt] at h3 ⊢; rw [e48, show (0 : Int32).toInt = 0 by decide]; rw [show (48 : Int32).toInt = 48 by decide] at h3; omega
      · right; rw [Int32.lt_iff_toInt_lt] at h3 ⊢; rw [e48, show (9 : Int32).toInt = 9 by decide]; rw [show (57 : Int32).toInt = 57 by decide] at h3; omega
    · by_cases h46 : stop = (46 : Int32)
      · right
        rcases hH with ⟨-, h⟩ | ⟨e, -⟩
        · exact absurd h (h4' h46)
        · exact e
      · exact Or.inl h46
theorem own_read {n ng hp q sx d0 e len stop b h4 : Int32} {m : Int64} {gs : Nat → Int32} (hW : Wf n ng hp q sx d0 e m) (hL : Ln len e hp sx stop) (hb : stop = b.toInt8.toInt32)
    (g0 : gs 0 = sx) (g2 : gs 2 = d0) (g3 : gs 3 = n) (e4 : gs 4 = h4) (hh : h4 = (if hp = (0 : Int32) then (0 : Int32) else (1 : Int32))) (g5 : gs 5 = q) (g6 : gs 6 = e) (g7 : gs 7 = stop) :
    ∃ wv : Int64, rd (tK m gs 26) len 30 (rdS (tK m gs 26) sx len) (0 : Int64) (-1 : Int32) = (e, wv, pq hp d0 q) ∧ rdN (tK m gs 26) sx len = ng ∧ rdS (tK m gs 26) sx len = d0 ∧ (n.toInt ≤ 18 → wv = m) := by
  have hA := own_atw hW g2 g3 e4 hh g5 g6
  obtain ⟨a1, a2, a3, a4, a5, a6, a7, a8, a9⟩ := hW
  have g4 : gs 4 = hp := by rw [e4, hh]; rcases a3 with h | h <;> rw [h] <;> decide
  clear e4 hh
  obtain ⟨N, eN⟩ : ∃ z : Nat, n.toInt = z := ⟨n.toInt.toNat, by omega⟩
  obtain ⟨Q, eQ⟩ : ∃ z : Nat, q.toInt = z := ⟨q.toInt.toNat, by omega⟩
  obtain ⟨S, eS⟩ : ∃ z : Nat, sx.toInt = z := ⟨sx.toInt.toNat, by omega⟩
  obtain ⟨M, eM⟩ : ∃ z : Nat, m.toInt = z := ⟨m.toInt.toNat, by omega⟩
  obtain ⟨H, eH, hH⟩ : ∃ z : Nat, hp.toInt = z ∧ ((z = 0 ∧ hp = 0) ∨ (z = 1 ∧ ¬ hp = 0)) := by
    rcases a3 with h | h
    · exact ⟨0, by rw [h]; decide, Or.inl ⟨rfl, h⟩⟩
    · exact ⟨1, by rw [h]; decide, Or.inr ⟨rfl, by rw [h]; decide⟩⟩
  obtain ⟨G, eG, hG⟩ : ∃ z : Nat, ng.toInt = z ∧ ((z = 0 ∧ ng = 0) ∨ (z = 1 ∧ ng = 1)) := by
    rcases a2 with h | h
    · exact ⟨0, by rw [h]; decide, Or.inl ⟨rfl, h⟩⟩
    · exact ⟨1, by rw [h]; decide, Or.inr ⟨rfl, h⟩⟩
  have H1 : H ≤ 1 := by rcases hH with ⟨e, -⟩ | ⟨e, -⟩ <;> omega
  have G1 : G ≤ 1 := by rcases hG with ⟨e, -⟩ | ⟨e, -⟩ <;> omega
  have eD : d0.toInt = (S + G : Nat) := by omega
  have eE : e.toInt = ((S + G) + N + H : Nat) := by omega
  have hN : N ≤ 19 := by omega
  have hQ : Q ≤ N := by omega
  have hS3 : S ≤ 3 := by omega
  have l0 : e.toInt ≤ len.toInt ∧ len.toInt ≤ e.toInt + 2 := by
    rcases hL with h | h
    · rw [h]; omega
    · omega
  obtain ⟨LL, eL⟩ : ∃ z : Nat, len.toInt = z := ⟨len.toInt.toNat, by omega⟩
  have LLb : (S + G) + N + H ≤ LL ∧ LL ≤ 26 := by omega
  have m9 : N ≤ 18 → M < 10 ^ N := fun h => by
    have := a9 (by omega)
    rw [eN, eM] at this
    exact_mod_cast this
  clear a1 a2 a3 a4 a5 a6 a7 a8 a9 l0
  have q0 : (gs 0).toInt = S := by rw [g0]; exact eS
  have q2 : (gs 2).toInt = (S + G : Nat) := by rw [g2]; exact eD
  have q3 : (gs 3).toInt = N := by rw [g3]; exact eN
  have q5 : (gs 5).toInt = Q := by rw [g5]; exact eQ
  have q6 : (gs 6).toInt = ((S + G) + N + H : Nat) := by rw [g6]; exact eE
  have qH : (H = 0 ∧ gs 4 = 0) ∨ (H = 1 ∧ ¬ gs 4 = 0) := by rw [g4]; exact hH
  have hdig : ∀ r, r < N + H → ¬ (H = 1 ∧ r = Q) → tK m gs 26 ((S + G) + r) = Int32.ofNat (48 + dg M N (kk H Q r)) := fun r hr hq => own_Td hA q0 q2 q3 q5 q6 qH eM (by omega) (by omega) hN hQ hr hq
  have hdot : H = 1 → tK m gs 26 ((S + G) + Q) = (46 : Int32) := fun h => by
    subst h
    exact own_T46 q0 q2 q5 q6 (qH.resolve_left (fun z => absurd z.1 (by decide))).2 (by omega) (by omega) hN hQ
  have bst := c_i2b b
  rw [← hb] at bst
  have sb : nar .byte stop = stop := by8 bst.2.1 bst.2.2
  have sb' : stop.toInt8.toInt32 = stop := sb
  have hst : tK m gs 26 ((S + G) + N + H) = stop := by
    rw [own_Te q0 q2 q6 (by omega) (by omega) (by omega), g7, sb', sb, sb]
  have hstop := own_stop (H := H) eL eE hL hst bst.2 hH
  have hNn : rdN (tK m gs 26) sx len = ng := by
    rcases hG with ⟨e0, h⟩ | ⟨e1, h⟩
    · subst e0
      rw [h]
      exact own_sgn (D := S) (N := N) (H := H) (Q := Q) (M := M) (hp := hp) eS eL (by rw [eE]; rfl) hL hst hdot hdig
    · subst e1
      have hlt : sx < len := by rw [Int32.lt_iff_toInt_lt]; omega
      have hcl : sx.toNatClampNeg = S := by have := clamp_of (x := sx) (by omega); omega
      unfold rdN
      rw [if_pos hlt, hcl, if_pos (own_T45 q0 q2 (Nat.le_refl _) (by omega) (by omega)), h]
  have hS : rdS (tK m gs 26) sx len = d0 := by
    unfold rdS
    rw [hNn]
    rcases hG with ⟨e0, h⟩ | ⟨e1, h⟩
    · rw [if_pos h, ← Int32.toInt_inj]; omega
    · rw [if_neg (by rw [h]; decide), ← Int32.toInt_inj, addI] <;> rw [show (1 : Int32).toInt = 1 by decide] <;> omega
  have m18 : N ≤ 18 → M < 1000000000000000000 := fun h => by
    have := m9 h
    have p18 : 10 ^ N ≤ 10 ^ 18 := Nat.pow_le_pow_right (by decide) h
    exact Nat.lt_of_lt_of_le this p18
  have hlen : len = Int32.ofNat LL := by rw [← Int32.toInt_inj, i32v (by omega)]; exact eL
  have hd0 : d0 = Int32.ofNat (S + G) := by rw [← Int32.toInt_inj, i32v (by omega)]; exact eD
  have hee : e = Int32.ofNat ((S + G) + N + H) := by rw [← Int32.toInt_inj, i32v (by omega)]; exact eE
  obtain ⟨ev, h1, h2⟩ := rd_main (T := tK m gs 26) (to := len) (D := S + G) (N := N) (H := H) (Q := Q) (M := M) (len := LL) (by omega) (by omega) hN hQ hlen LLb.1 LLb.2 hdot hdig hstop m18 (N + H) 0 30 (0 : Int64) (by omega) (by omega)
  have p0 : pp H Q (S + G) 0 = (-1 : Int32) := by unfold pp; rw [if_neg (by omega)]
  have pE : pp H Q (S + G) (N + H) = pq hp d0 q := by
    unfold pp pq
    rcases hH with ⟨e0, h⟩ | ⟨e1, h⟩
    · rw [if_neg (by omega), if_pos h]
    · rw [if_pos ⟨e1, by omega⟩, if_neg h, ← Int32.toInt_inj, i32v (by omega), addI] <;> omega
  refine ⟨ev, ?_, hNn, hS, fun hn => ?_⟩
  · have h1' := h1
    rw [p0, pE, ← hee, Nat.add_zero, ← hd0] at h1'
    rw [hS]; exact h1'
  · have hn' : N ≤ 18 := by omega
    have k0 : kk H Q 0 = 0 := by unfold kk; rw [if_neg (by omega)]
    have := h2 hn' (by
      rw [k0, Nat.sub_zero, Nat.div_eq_of_lt (m9 hn')]; rfl)
    rw [this, ← Int64.toInt_inj, i64v (Nat.lt_trans (m18 hn') (by decide)), eM]
theorem own_dgs {n ng hp q sx d0 e len : Int32} {m : Int64} {T : Nat → Int32} (hW : Wf n ng hp q sx d0 e m) (hS : rdS T sx len = d0) : dgs T sx len e (pq hp d0 q) = n := by
  obtain ⟨a1, a2, a3, a4, a5, a6, a7, a8, a9⟩ := hW
  have n01 : 0 ≤ ng.toInt ∧ ng.toInt ≤ 1 := by rcases a2 with h | h <;> rw [h] <;> decide
  unfold dgs pq
  rw [hS]
  have p01 : 0 ≤ hp.toInt ∧ hp.toInt ≤ 1 := by rcases a3 with h | h <;> rw [h] <;> decide
  have e1 : (e - d0).toInt = e.toInt - d0.toInt := subI (by omega) (by omega)
  rcases a3 with h | h
  · rw [if_pos h, if_pos (by decide)]
    rw [h, show (0 : Int32).toInt = 0 by decide] at a7
    rw [← Int32.toInt_inj, subI] <;> rw [e1, show (0 : Int32).toInt = 0 by decide] <;> omega
  · have e2 : (d0 + q).toInt = d0.toInt + q.toInt := addI (by omega) (by omega)
    have hne : ¬ hp = 0 := by rw [h]; decide
    rw [if_neg hne, if_neg (by rw [Int32.lt_iff_toInt_lt, e2, show (0 : Int32).toInt = 0 by decide]; omega)]
    rw [h, show (1 : Int32).toInt = 1 by decide] at a7
    rw [← Int32.toInt_inj, subI] <;> rw [e1, show (1 : Int32).toInt = 1 by decide] <;> omega
theorem own_sv {n ng hp q sx d0 e : Int32} {m : Int64} (hW : Wf n ng hp q sx d0 e m) : (if (pq hp d0 q) < (0 : Int32) then (0 : Int32) else ((e - (pq hp d0 q)) - (1 : Int32))) = (if hp = (0 : Int32) then (0 : Int32) else (n - q)) := by
  obtain ⟨a1, a2, a3, a4, a5, a6, a7, a8, a9⟩ := hW
  have n01 : 0 ≤ ng.toInt ∧ ng.toInt ≤ 1 := by rcases a2 with h | h <;> rw [h] <;> decide
  unfold pq
  rcases a3 with h | h
  · rw [if_pos h, if_pos h, if_pos (by decide)]
  · have e2 : (d0 + q).toInt = d0.toInt + q.toInt := addI (by omega) (by omega)
    have hne : ¬ hp = 0 := by rw [h]; decide
    rw [h, show (1 : Int32).toInt = 1 by decide] at a7
    rw [if_neg hne, if_neg hne, if_neg (by rw [Int32.lt_iff_toInt_lt, e2, show (0 : Int32).toInt = 0 by decide]; omega)]
    have e3 : (e - (d0 + q)).toInt = e.toInt - (d0.toInt + q.toInt) := by rw [subI] <;> rw [e2] <;> omega
    have e4 : (n - q).toInt = n.toInt - q.toInt := subI (by omega) (by omega)
    rw [← Int32.toInt_inj, e4, subI] <;> rw [e3, show (1 : Int32).toInt = 1 by decide] <;> omega
theorem own_er {n ng hp q sx d0 e : Int32} {m : Int64} (hW : Wf n ng hp q sx d0 e m) : 0 ≤ e.toInt ∧ e.toInt ≤ 24 := by
  obtain ⟨a1, a2, a3, a4, a5, a6, a7, a8, a9⟩ := hW
  have n01 : 0 ≤ ng.toInt ∧ ng.toInt ≤ 1 := by rcases a2 with h | h <;> rw [h] <;> decide
  have p01 : 0 ≤ hp.toInt ∧ hp.toInt ≤ 1 := by rcases a3 with h | h <;> rw [h] <;> decide
  omega
theorem own_le {n ng hp q sx d0 e len stop : Int32} {m : Int64} (hW : Wf n ng hp q sx d0 e m) (hL : Ln len e hp sx stop) : len.toInt ≤ (26 : Nat) ∧ len.toInt ≤ (30 : Nat) := by
  have := own_er hW
  rcases hL with h | h
  · rw [h]; omega
  · omega
theorem own_18 {n : Int32} (h : ¬ (18 : Int32) < n) : n.toInt ≤ 18 := by
  rw [Int32.lt_iff_toInt_lt, show (18 : Int32).toInt = 18 by decide] at h; omega
def ngv (ng : Int32) (m : Int64) : Int64 := (if ng = (0 : Int32) then m else (-m))
def scv (hp n q : Int32) : Int32 := (if hp = (0 : Int32) then (0 : Int32) else (n - q))

theorem pd_0 : parseMethodDescriptor "(I[IJ[J)B" = some ⟨[.int, (.array .int), .long, (.array .long)], some .byte⟩ := by decide +kernel
theorem pd_1 : parseMethodDescriptor "()V" = some ⟨[], none⟩ := by decide +kernel
theorem pd_2 : parseMethodDescriptor "([BII)I" = some ⟨[(.array .byte), .int, .int], some .int⟩ := by decide +kernel
theorem pd_3 : parseMethodDescriptor "()J" = some ⟨[], some .long⟩ := by decide +kernel
theorem pd_4 : parseMethodDescriptor "()I" = some ⟨[], some .int⟩ := by decide +kernel
theorem ef_0 (m : MethodId) (q1 : Int64) (p2 : Int32) (p3 : Int32) : entryFrame m #[(.long q1), (.int p2), (.int p3)] maxLocals = mkF m 0 #[.val (.long q1), .second, .val (.int p2), .val (.int p3), .unset, .unset, .unset, .unset, .unset, .unset, .unset, .unset, .unset, .unset, .unset, .unset, .unset, .unset, .unset, .unset, .unset, .unset, .unset, .unset, .unset, .unset, .unset, .unset, .unset] [] := by first | (simp [entryFrame, mkF, argsToLocals, Value.category, maxLocals]; done) | rfl
def f0 (q1 : Int64) (p2 : Int32) (p3 : Int32) : Int32 := (1 : Int32)
set_option maxRecDepth 65536 in
set_option maxHeartbeats 40000000 in
theorem rm0 (l : Launch) (Z : State) (a0 : Array Value) (hw : ∀ d ∈ tables_1, d.before a0 Z = true) (ws : List Jvm.Cond) (q1 : Int64) (p2 : Int32) (p3 : Int32) (h0 : Heap) (n0 : Nat) (Z0 : n0 ≤ h0.size) :
    MetFree l x (head1 (Jvm.Cond.code x code maxLocals ret :: ws) room_1) (fun a U => a = #[(.long q1), (.int p2), (.int p3)] ∧ Z.Warmed39 U.vm ∧ U.heap = h0) (fun _ _ _ _ _ => True) (fun _ U o U' => ∃ v L, o = .returned v ∧ QL (.int (f0 q1 p2 p3)) n0 v U'.heap L ∧ FrameEnd U o U' L room_1.cells room_1.slots) := by
  refine MetFree.of_bodySF (plainFor_of_name pn_0) hisR ?_
  intro p e s m args below meth c s₁ Bd hml0 hP hK
  obtain ⟨rfl, hZ, hh⟩ := hP
  have hx := Bd.exec
  have hby := Bd.bytes
  have hml : c.maxLocals = 29 := hml0
  have hown : s.vm.findClass "com/example/biller/biller/files/PlainValueReadPinLaw" = some m.cls := findClass_of_methodNamed Bd.named
  have hnm := (name_of_methodNamed Bd.named Bd.method).1
  have X0 : Stand p l e room_1 s m #[(.long q1), (.int p2), (.int p3)] below meth c s₁ [] 0 0 := Stand.of_body Bd
  have e0 : s₁.heap = h0 := by rw [← hh, Bd.state]; rfl
  have N0 := Fr.nil n0
  refine Go.done (Go.step (fun t k => castTop (ef_0 m q1 p2 p3) k) ?_)
  have KK0 : Keep h0 h0 [] := Keep.refl _ _
  show Go p e below _ (s₁.setTop (mkF m 0 _ []))
  refine Go.step (fun t k => XS.bipush X0.here hx rfl (hb hby at_0)  k) ?_
  show Go p e below _ (s₁.setTop (mkF m 2 _ [(.int (19 : Int32))]))
  obtain ⟨T4, h4, k4, X4, e4, E4, A4, st4⟩ := newP X0 hx hZ (hw _ (List.mem_of_getElem? (i := 0) rfl)) e0 (g := (mkF m 2 #[.val (.long q1), .second, .val (.int p2), .val (.int p3), .unset, .unset, .unset, .unset, .unset, .unset, .unset, .unset, .unset, .unset, .unset, .unset, .unset, .unset, .unset, .unset, .unset, .unset, .unset, .unset, .unset, .unset, .unset, .unset, .unset] [(.int (19 : Int32))])) rfl (hb hby at_2) rfl (by decide) (cap := 19) (by decide) (by decide) (by decide) (by decide)
  obtain ⟨b4, g4⟩ : ∃ z, z = h0.size := ⟨_, rfl⟩
  rw [← g4] at A4 st4
  have g_b4 : n0 ≤ b4 := Nat.le_trans Z0 (Nat.le_of_eq g4.symm)
  have sz_b4 : h0.size ≤ b4 := Nat.le_trans KK0.1 (Nat.le_of_eq g4.symm)
  refine Go.step st4 ?_
  have Z4 := Nat.le_trans Z0 E4.1
  have KK4 : Keep h0 h4 [] := KK0.ext E4
  have A_b4_4 : Ary Z h4 b4 .long 19 (fun i => .long ((fun _ => (0 : Int64)) i)) := Ary.mk A4 (by decide) (by decide)
  replace X4 : Stand p l e room_1 s m #[(.long q1), (.int p2), (.int p3)] below meth c T4 _ 1 19 := X4
  show Go p e below _ (T4.setTop (mkF m 4 _ [(.ref b4)]))
  refine Go.step (fun t k => XS.dup X4.here hx rfl (hb hby at_4) rfl rfl k) ?_
  show Go p e below _ (T4.setTop (mkF m 5 _ [(.ref b4), (.ref b4)]))
  refine gC (q := 6) (v := 0) X4 hx (hb hby at_5) rfl rfl ?_
  refine Go.step (fun t k => XS.lconst X4.here hx rfl (hb hby at_6)  k) ?_
  show Go p e below _ (T4.setTop (mkF m 7 _ [(.long (1 : Int64)), (.int (0 : Int32)), (.ref b4), (.ref b4)]))
  obtain ⟨cl5, Ar5, in5, -⟩ := A_b4_4.hin (j := (0 : Int32)) (by decide) (by decide)
  obtain ⟨T5, h5, X5, e5, W5, st5⟩ := stJ X4 hx hZ e4 Ar5 in5 (g := (mkF m 7 #[.val (.long q1), .second, .val (.int p2), .val (.int p3), .unset, .unset, .unset, .unset, .unset, .unset, .unset, .unset, .unset, .unset, .unset, .unset, .unset, .unset, .unset, .unset, .unset, .unset, .unset, .unset, .unset, .unset, .unset, .unset, .unset] [(.long (1 : Int64)), (.int (0 : Int32)), (.ref b4), (.ref b4)])) rfl rfl (hb hby at_7)
  refine Go.step st5 ?_
  have N5 := Fr.snoc X5 N0 g_b4
  have Z5 := Nat.le_trans Z4 (Keep.of_wr W5).1
  have KK5 : Keep h0 h5 [] := KK4.wr W5 (Or.inr sz_b4)
  have A_b4_5 : Ary Z h5 b4 .long 19 (fun i => .long ((upA (fun _ => (0 : Int64)) 0 (1 : Int64)) i)) := A_b4_4.setJ W5 (by decide)
  show Go p e below _ (T5.setTop (mkF m 8 _ [(.ref b4)]))
  refine Go.step (fun t k => XS.dup X5.here hx rfl (hb hby at_8) rfl rfl k) ?_
  show Go p e below _ (T5.setTop (mkF m 9 _ [(.ref b4), (.ref b4)]))
  refine gC (q := 10) (v := 1) X5 hx (hb hby at_9) rfl rfl ?_
  refine Go.step (X5.ldc2Long hx hown (mvT hZ (hw _ (List.mem_of_getElem? (i := 1) rfl))) (g := (mkF m 10 #[.val (.long q1), .second, .val (.int p2), .val (.int p3), .unset, .unset, .unset, .unset, .unset, .unset, .unset, .unset, .unset, .unset, .unset, .unset, .unset, .unset, .unset, .unset, .unset, .unset, .unset, .unset, .unset, .unset, .unset, .unset, .unset] [(.int (1 : Int32)), (.ref b4), (.ref b4)])) rfl (hb hby at_10)) ?_
  show Go p e below _ (T5.setTop (mkF m 13 _ [(.long (10 : Int64)), (.int (1 : Int32)), (.ref b4), (.ref b4)]))
  obtain ⟨cl6, Ar6, in6, -⟩ := A_b4_5.hin (j := (1 : Int32)) (by decide) (by decide)
  obtain ⟨T6, h6, X6, e6, W6, st6⟩ := stJ X5 hx hZ e5 Ar6 in6 (g := (mkF m 13 #[.val (.long q1), .second, .val (.int p2), .val (.int p3), .unset, .unset, .unset, .unset, .unset, .unset, .unset, .unset, .unset, .unset, .unset, .unset, .unset, .unset, .unset, .unset, .unset, .unset, .unset, .unset, .unset, .unset, .unset, .unset, .unset] [(.long (10 : Int64)), (.int (1 : Int32)), (.ref b4), (.ref b4)])) rfl rfl (hb hby at_13)
  refine Go.step st6 ?_
  have N6 := Fr.snoc X6 N5 g_b4
  have Z6 := Nat.le_trans Z5 (Keep.of_wr W6).1
  have KK6 : Keep h0 h6 [] := KK5.wr W6 (Or.inr sz_b4)
  have A_b4_6 : Ary Z h6 b4 .long 19 (fun i => .long ((upA (upA (fun _ => (0 : Int64)) 0 (1 : Int64)) 1 (10 : Int64)) i)) := A_b4_5.setJ W6 (by decide)
  show Go p e below _ (T6.setTop (mkF m 14 _ [(.ref b4)]))
  refine Go.step (fun t k => XS.dup X6.here hx rfl (hb hby at_14) rfl rfl k) ?_
  show Go p e below _ (T6.setTop (mkF m 15 _ [(.ref b4), (.ref b4)]))
  refine gC (q := 16) (v := 2) X6 hx (hb hby at_15) rfl rfl ?_
  refine Go.step (X6.ldc2Long hx hown (mvT hZ (hw _ (List.mem_of_getElem? (i := 2) rfl))) (g := (mkF m 16 #[.val (.long q1), .second, .val (.int p2), .val (.int p3), .unset, .unset, .unset, .unset, .unset, .unset, .unset, .unset, .unset, .unset, .unset, .unset, .unset, .unset, .unset, .unset, .unset, .unset, .unset, .unset, .unset, .unset, .unset, .unset, .unset] [(.int (2 : Int32)), (.ref b4), (.ref b4)])) rfl (hb hby at_16)) ?_
  show Go p e below _ (T6.setTop (mkF m 19 _ [(.long (100 : Int64)), (.int (2 : Int32)), (.ref b4), (.ref b4)]))
  obtain ⟨cl7, Ar7, in7, -⟩ := A_b4_6.hin (j := (2 : Int32)) (by decide) (by decide)
  obtain ⟨T7, h7, X7, e7, W7, st7⟩ := stJ X6 hx hZ e6 Ar7 in7 (g := (mkF m 19 #[.val (.long q1), .second, .val (.int p2), .val (.int p3), .unset, .unset, .unset, .unset, .unset, .unset, .unset, .unset, .unset, .unset, .unset, .unset, .unset, .unset, .unset, .unset, .unset, .unset, .unset, .unset, .unset, .unset, .unset, .unset, .unset] [(.long (100 : Int64)), (.int (2 : Int32)), (.ref b4), (.ref b4)])) rfl rfl (hb hby at_19)
  refine Go.step st7 ?_
  have N7 := Fr.snoc X7 N6 g_b4
  have Z7 := Nat.le_trans Z6 (Keep.of_wr W7).1
  have KK7 : Keep h0 h7 [] := KK6.wr W7 (Or.inr sz_b4)
  have A_b4_7 : Ary Z h7 b4 .long 19 (fun i => .long ((upA (upA (upA (fun _ => (0 : Int64)) 0 (1 : Int64)) 1 (10 : Int64)) 2 (100 : Int64)) i)) := A_b4_6.setJ W7 (by decide)
  show Go p e below _ (T7.setTop (mkF m 20 _ [(.ref b4)]))
  refine Go.step (fun t k => XS.dup X7.here hx rfl (hb hby at_20) rfl rfl k) ?_
  show Go p e below _ (T7.setTop (mkF m 21 _ [(.ref b4), (.ref b4)]))
  refine gC (q := 22) (v := 3) X7 hx (hb hby at_21) rfl rfl ?_
  refine Go.step (X7.ldc2Long hx hown (mvT hZ (hw _ (List.mem_of_getElem? (i := 3) rfl))) (g := (mkF m 22 #[.val (.long q1), .second, .val (.int p2), .val (.int p3), .unset, .unset, .unset, .unset, .unset, .unset, .unset, .unset, .unset, .unset, .unset, .unset, .unset, .unset, .unset, .unset, .unset, .unset, .unset, .unset, .unset, .unset, .unset, .unset, .unset] [(.int (3 : Int32)), (.ref b4), (.ref b4)])) rfl (hb hby at_22)) ?_
  show Go p e below _ (T7.setTop (mkF m 25 _ [(.long (1000 : Int64)), (.int (3 : Int32)), (.ref b4), (.ref b4)]))
  obtain ⟨cl8, Ar8, in8, -⟩ := A_b4_7.hin (j := (3 : Int32)) (by decide) (by decide)
  obtain ⟨T8, h8, X8, e8, W8, st8⟩ := stJ X7 hx hZ e7 Ar8 in8 (g := (mkF m 25 #[.val (.long q1), .second, .val (.int p2), .val (.int p3), .unset, .unset, .unset, .unset, .unset, .unset, .unset, .unset, .unset, .unset, .unset, .unset, .unset, .unset, .unset, .unset, .unset, .unset, .unset, .unset, .unset, .unset, .unset, .unset, .unset] [(.long (1000 : Int64)), (.int (3 : Int32)), (.ref b4), (.ref b4)])) rfl rfl (hb hby at_25)
  refine Go.step st8 ?_
  have N8 := Fr.snoc X8 N7 g_b4
  have Z8 := Nat.le_trans Z7 (Keep.of_wr W8).1
  have KK8 : Keep h0 h8 [] := KK7.wr W8 (Or.inr sz_b4)
  have A_b4_8 : Ary Z h8 b4 .long 19 (fun i => .long ((upA (upA (upA (upA (fun _ => (0 : Int64)) 0 (1 : Int64)) 1 (10 : Int64)) 2 (100 : Int64)) 3 (1000 : Int64)) i)) := A_b4_7.setJ W8 (by decide)
  show Go p e below _ (T8.setTop (mkF m 26 _ [(.ref b4)]))
  refine Go.step (fun t k => XS.dup X8.here hx rfl (hb hby at_26) rfl rfl k) ?_
  show Go p e below _ (T8.setTop (mkF m 27 _ [(.ref b4), (.ref b4)]))
  refine gC (q := 28) (v := 4) X8 hx (hb hby at_27) rfl rfl ?_
  refine Go.step (X8.ldc2Long hx hown (mvT hZ (hw _ (List.mem_of_getElem? (i := 4) rfl))) (g := (mkF m 28 #[.val (.long q1), .second, .val (.int p2), .val (.int p3), .unset, .unset, .unset, .unset, .unset, .unset, .unset, .unset, .unset, .unset, .unset, .unset, .unset, .unset, .unset, .unset, .unset, .unset, .unset, .unset, .unset, .unset, .unset, .unset, .unset] [(.int (4 : Int32)), (.ref b4), (.ref b4)])) rfl (hb hby at_28)) ?_
  show Go p e below _ (T8.setTop (mkF m 31 _ [(.long (10000 : Int64)), (.int (4 : Int32)), (.ref b4), (.ref b4)]))
  obtain ⟨cl9, Ar9, in9, -⟩ := A_b4_8.hin (j := (4 : Int32)) (by decide) (by decide)
  obtain ⟨T9, h9, X9, e9, W9, st9⟩ := stJ X8 hx hZ e8 Ar9 in9 (g := (mkF m 31 #[.val (.long q1), .second, .val (.int p2), .val (.int p3), .unset, .unset, .unset, .unset, .unset, .unset, .unset, .unset, .unset, .unset, .unset, .unset, .unset, .unset, .unset, .unset, .unset, .unset, .unset, .unset, .unset, .unset, .unset, .unset, .unset] [(.long (10000 : Int64)), (.int (4 : Int32)), (.ref b4), (.ref b4)])) rfl rfl (hb hby at_31)
  refine Go.step st9 ?_
  have N9 := Fr.snoc X9 N8 g_b4
  have Z9 := Nat.le_trans Z8 (Keep.of_wr W9).1
  have KK9 : Keep h0 h9 [] := KK8.wr W9 (Or.inr sz_b4)
  have A_b4_9 : Ary Z h9 b4 .long 19 (fun i => .long ((upA (upA (upA (upA (upA (fun _ => (0 : Int64)) 0 (1 : Int64)) 1 (10 : Int64)) 2 (100 : Int64)) 3 (1000 : Int64)) 4 (10000 : Int64)) i)) := A_b4_8.setJ W9 (by decide)
  show Go p e below _ (T9.setTop (mkF m 32 _ [(.ref b4)]))
  refine Go.step (fun t k => XS.dup X9.here hx rfl (hb hby at_32) rfl rfl k) ?_
  show Go p e below _ (T9.setTop (mkF m 33 _ [(.ref b4), (.ref b4)]))
  refine gC (q := 34) (v := 5) X9 hx (hb hby at_33) rfl rfl ?_
  refine Go.step (X9.ldc2Long hx hown (mvT hZ (hw _ (List.mem_of_getElem? (i := 5) rfl))) (g := (mkF m 34 #[.val (.long q1), .second, .val (.int p2), .val (.int p3), .unset, .unset, .unset, .unset, .unset, .unset, .unset, .unset, .unset, .unset, .unset, .unset, .unset, .unset, .unset, .unset, .unset, .unset, .unset, .unset, .unset, .unset, .unset, .unset, .unset] [(.int (5 : Int32)), (.ref b4), (.ref b4)])) rfl (hb hby at_34)) ?_
  show Go p e below _ (T9.setTop (mkF m 37 _ [(.long (100000 : Int64)), (.int (5 : Int32)), (.ref b4), (.ref b4)]))
  obtain ⟨cl10, Ar10, in10, -⟩ := A_b4_9.hin (j := (5 : Int32)) (by decide) (by decide)
  obtain ⟨T10, h10, X10, e10, W10, st10⟩ := stJ X9 hx hZ e9 Ar10 in10 (g := (mkF m 37 #[.val (.long q1), .second, .val (.int p2), .val (.int p3), .unset, .unset, .unset, .unset, .unset, .unset, .unset, .unset, .unset, .unset, .unset, .unset, .unset, .unset, .unset, .unset, .unset, .unset, .unset, .unset, .unset, .unset, .unset, .unset, .unset] [(.long (100000 : Int64)), (.int (5 : Int32)), (.ref b4), (.ref b4)])) rfl rfl (hb hby at_37)
  refine Go.step st10 ?_
  have N10 := Fr.snoc X10 N9 g_b4
  have Z10 := Nat.le_trans Z9 (Keep.of_wr W10).1
  have KK10 : Keep h0 h10 [] := KK9.wr W10 (Or.inr sz_b4)
  have A_b4_10 : Ary Z h10 b4 .long 19 (fun i => .long ((upA (upA (upA (upA (upA (upA (fun _ => (0 : Int64)) 0 (1 : Int64)) 1 (10 : Int64)) 2 (100 : Int64)) 3 (1000 : Int64)) 4 (10000 : Int64)) 5 (100000 : Int64)) i)) := A_b4_9.setJ W10 (by decide)
  show Go p e below _ (T10.setTop (mkF m 38 _ [(.ref b4)]))
  refine Go.step (fun t k => XS.dup X10.here hx rfl (hb hby at_38) rfl rfl k) ?_
  show Go p e below _ (T10.setTop (mkF m 39 _ [(.ref b4), (.ref b4)]))
  refine Go.step (fun t k => XS.bipush X10.here hx rfl (hb hby at_39)  k) ?_
  show Go p e below _ (T10.setTop (mkF m 41 _ [(.int (6 : Int32)), (.ref b4), (.ref b4)]))
  refine Go.step (X10.ldc2Long hx hown (mvT hZ (hw _ (List.mem_of_getElem? (i := 6) rfl))) (g := (mkF m 41 #[.val (.long q1), .second, .val (.int p2), .val (.int p3), .unset, .unset, .unset, .unset, .unset, .unset, .unset, .unset, .unset, .unset, .unset, .unset, .unset, .unset, .unset, .unset, .unset, .unset, .unset, .unset, .unset, .unset, .unset, .unset, .unset] [(.int (6 : Int32)), (.ref b4), (.ref b4)])) rfl (hb hby at_41)) ?_
  show Go p e below _ (T10.setTop (mkF m 44 _ [(.long (1000000 : Int64)), (.int (6 : Int32)), (.ref b4), (.ref b4)]))
  obtain ⟨cl11, Ar11, in11, -⟩ := A_b4_10.hin (j := (6 : Int32)) (by decide) (by decide)
  obtain ⟨T11, h11, X11, e11, W11, st11⟩ := stJ X10 hx hZ e10 Ar11 in11 (g := (mkF m 44 #[.val (.long q1), .second, .val (.int p2), .val (.int p3), .unset, .unset, .unset, .unset, .unset, .unset, .unset, .unset, .unset, .unset, .unset, .unset, .unset, .unset, .unset, .unset, .unset, .unset, .unset, .unset, .unset, .unset, .unset, .unset, .unset] [(.long (1000000 : Int64)), (.int (6 : Int32)), (.ref b4), (.ref b4)])) rfl rfl (hb hby at_44)
  refine Go.step st11 ?_
  have N11 := Fr.snoc X11 N10 g_b4
  have Z11 := Nat.le_trans Z10 (Keep.of_wr W11).1
  have KK11 : Keep h0 h11 [] := KK10.wr W11 (Or.inr sz_b4)
  have A_b4_11 : Ary Z h11 b4 .long 19 (fun i => .long ((upA (upA (upA (upA (upA (upA (upA (fun _ => (0 : Int64)) 0 (1 : Int64)) 1 (10 : Int64)) 2 (100 : Int64)) 3 (1000 : Int64)) 4 (10000 : Int64)) 5 (100000 : Int64)) 6 (1000000 : Int64)) i)) := A_b4_10.setJ W11 (by decide)
  show Go p e below _ (T11.setTop (mkF m 45 _ [(.ref b4)]))
  refine Go.step (fun t k => XS.dup X11.here hx rfl (hb hby at_45) rfl rfl k) ?_
  show Go p e below _ (T11.setTop (mkF m 46 _ [(.ref b4), (.ref b4)]))
  refine Go.step (fun t k => XS.bipush X11.here hx rfl (hb hby at_46)  k) ?_
  show Go p e below _ (T11.setTop (mkF m 48 _ [(.int (7 : Int32)), (.ref b4), (.ref b4)]))
  refine Go.step (X11.ldc2Long hx hown (mvT hZ (hw _ (List.mem_of_getElem? (i := 7) rfl))) (g := (mkF m 48 #[.val (.long q1), .second, .val (.int p2), .val (.int p3), .unset, .unset, .unset, .unset, .unset, .unset, .unset, .unset, .unset, .unset, .unset, .unset, .unset, .unset, .unset, .unset, .unset, .unset, .unset, .unset, .unset, .unset, .unset, .unset, .unset] [(.int (7 : Int32)), (.ref b4), (.ref b4)])) rfl (hb hby at_48)) ?_
  show Go p e below _ (T11.setTop (mkF m 51 _ [(.long (10000000 : Int64)), (.int (7 : Int32)), (.ref b4), (.ref b4)]))
  obtain ⟨cl12, Ar12, in12, -⟩ := A_b4_11.hin (j := (7 : Int32)) (by decide) (by decide)
  obtain ⟨T12, h12, X12, e12, W12, st12⟩ := stJ X11 hx hZ e11 Ar12 in12 (g := (mkF m 51 #[.val (.long q1), .second, .val (.int p2), .val (.int p3), .unset, .unset, .unset, .unset, .unset, .unset, .unset, .unset, .unset, .unset, .unset, .unset, .unset, .unset, .unset, .unset, .unset, .unset, .unset, .unset, .unset, .unset, .unset, .unset, .unset] [(.long (10000000 : Int64)), (.int (7 : Int32)), (.ref b4), (.ref b4)])) rfl rfl (hb hby at_51)
  refine Go.step st12 ?_
  have N12 := Fr.snoc X12 N11 g_b4
  have Z12 := Nat.le_trans Z11 (Keep.of_wr W12).1
  have KK12 : Keep h0 h12 [] := KK11.wr W12 (Or.inr sz_b4)
  have A_b4_12 : Ary Z h12 b4 .long 19 (fun i => .long ((upA (upA (upA (upA (upA (upA (upA (upA (fun _ => (0 : Int64)) 0 (1 : Int64)) 1 (10 : Int64)) 2 (100 : Int64)) 3 (1000 : Int64)) 4 (10000 : Int64)) 5 (100000 : Int64)) 6 (1000000 : Int64)) 7 (10000000 : Int64)) i)) := A_b4_11.setJ W12 (by decide)
  show Go p e below _ (T12.setTop (mkF m 52 _ [(.ref b4)]))
  refine Go.step (fun t k => XS.dup X12.here hx rfl (hb hby at_52) rfl rfl k) ?_
  show Go p e below _ (T12.setTop (mkF m 53 _ [(.ref b4), (.ref b4)]))
  refine Go.step (fun t k => XS.bipush X12.here hx rfl (hb hby at_53)  k) ?_
  show Go p e below _ (T12.setTop (mkF m 55 _ [(.int (8 : Int32)), (.ref b4), (.ref b4)]))
  refine Go.step (X12.ldc2Long hx hown (mvT hZ (hw _ (List.mem_of_getElem? (i := 8) rfl))) (g := (mkF m 55 #[.val (.long q1), .second, .val (.int p2), .val (.int p3), .unset, .unset, .unset, .unset, .unset, .unset, .unset, .unset, .unset, .unset, .unset, .unset, .unset, .unset, .unset, .unset, .unset, .unset, .unset, .unset, .unset, .unset, .unset, .unset, .unset] [(.int (8 : Int32)), (.ref b4), (.ref b4)])) rfl (hb hby at_55)) ?_
  show Go p e below _ (T12.setTop (mkF m 58 _ [(.long (100000000 : Int64)), (.int (8 : Int32)), (.ref b4), (.ref b4)]))
  obtain ⟨cl13, Ar13, in13, -⟩ := A_b4_12.hin (j := (8 : Int32)) (by decide) (by decide)
  obtain ⟨T13, h13, X13, e13, W13, st13⟩ := stJ X12 hx hZ e12 Ar13 in13 (g := (mkF m 58 #[.val (.long q1), .second, .val (.int p2), .val (.int p3), .unset, .unset, .unset, .unset, .unset, .unset, .unset, .unset, .unset, .unset, .unset, .unset, .unset, .unset, .unset, .unset, .unset, .unset, .unset, .unset, .unset, .unset, .unset, .unset, .unset] [(.long (100000000 : Int64)), (.int (8 : Int32)), (.ref b4), (.ref b4)])) rfl rfl (hb hby at_58)
  refine Go.step st13 ?_
  have N13 := Fr.snoc X13 N12 g_b4
  have Z13 := Nat.le_trans Z12 (Keep.of_wr W13).1
  have KK13 : Keep h0 h13 [] := KK12.wr W13 (Or.inr sz_b4)
  have A_b4_13 : Ary Z h13 b4 .long 19 (fun i => .long ((upA (upA (upA (upA (upA (upA (upA (upA (upA (fun _ => (0 : Int64)) 0 (1 : Int64)) 1 (10 : Int64)) 2 (100 : Int64)) 3 (1000 : Int64)) 4 (10000 : Int64)) 5 (100000 : Int64)) 6 (1000000 : Int64)) 7 (10000000 : Int64)) 8 (100000000 : Int64)) i)) := A_b4_12.setJ W13 (by decide)
  show Go p e below _ (T13.setTop (mkF m 59 _ [(.ref b4)]))
  refine Go.step (fun t k => XS.dup X13.here hx rfl (hb hby at_59) rfl rfl k) ?_
  show Go p e below _ (T13.setTop (mkF m 60 _ [(.ref b4), (.ref b4)]))
  refine Go.step (fun t k => XS.bipush X13.here hx rfl (hb hby at_60)  k) ?_
  show Go p e below _ (T13.setTop (mkF m 62 _ [(.int (9 : Int32)), (.ref b4), (.ref b4)]))
  refine Go.step (X13.ldc2Long hx hown (mvT hZ (hw _ (List.mem_of_getElem? (i := 9) rfl))) (g := (mkF m 62 #[.val (.long q1), .second, .val (.int p2), .val (.int p3), .unset, .unset, .unset, .unset, .unset, .unset, .unset, .unset, .unset, .unset, .unset, .unset, .unset, .unset, .unset, .unset, .unset, .unset, .unset, .unset, .unset, .unset, .unset, .unset, .unset] [(.int (9 : Int32)), (.ref b4), (.ref b4)])) rfl (hb hby at_62)) ?_
  show Go p e below _ (T13.setTop (mkF m 65 _ [(.long (1000000000 : Int64)), (.int (9 : Int32)), (.ref b4), (.ref b4)]))
  obtain ⟨cl14, Ar14, in14, -⟩ := A_b4_13.hin (j := (9 : Int32)) (by decide) (by decide)
  obtain ⟨T14, h14, X14, e14, W14, st14⟩ := stJ X13 hx hZ e13 Ar14 in14 (g := (mkF m 65 #[.val (.long q1), .second, .val (.int p2), .val (.int p3), .unset, .unset, .unset, .unset, .unset, .unset, .unset, .unset, .unset, .unset, .unset, .unset, .unset, .unset, .unset, .unset, .unset, .unset, .unset, .unset, .unset, .unset, .unset, .unset, .unset] [(.long (1000000000 : Int64)), (.int (9 : Int32)), (.ref b4), (.ref b4)])) rfl rfl (hb hby at_65)
  refine Go.step st14 ?_
  have N14 := Fr.snoc X14 N13 g_b4
  have Z14 := Nat.le_trans Z13 (Keep.of_wr W14).1
  have KK14 : Keep h0 h14 [] := KK13.wr W14 (Or.inr sz_b4)
  have A_b4_14 : Ary Z h14 b4 .long 19 (fun i => .long ((upA (upA (upA (upA (upA (upA (upA (upA (upA (upA (fun _ => (0 : Int64)) 0 (1 : Int64)) 1 (10 : Int64)) 2 (100 : Int64)) 3 (1000 : Int64)) 4 (10000 : Int64)) 5 (100000 : Int64)) 6 (1000000 : Int64)) 7 (10000000 : Int64)) 8 (100000000 : Int64)) 9 (1000000000 : Int64)) i)) := A_b4_13.setJ W14 (by decide)
  show Go p e below _ (T14.setTop (mkF m 66 _ [(.ref b4)]))
  refine Go.step (fun t k => XS.dup X14.here hx rfl (hb hby at_66) rfl rfl k) ?_
  show Go p e below _ (T14.setTop (mkF m 67 _ [(.ref b4), (.ref b4)]))
  refine Go.step (fun t k => XS.bipush X14.here hx rfl (hb hby at_67)  k) ?_
  show Go p e below _ (T14.setTop (mkF m 69 _ [(.int (10 : Int32)), (.ref b4), (.ref b4)]))
  refine Go.step (X14.ldc2Long hx hown (mvT hZ (hw _ (List.mem_of_getElem? (i := 10) rfl))) (g := (mkF m 69 #[.val (.long q1), .second, .val (.int p2), .val (.int p3), .unset, .unset, .unset, .unset, .unset, .unset, .unset, .unset, .unset, .unset, .unset, .unset, .unset, .unset, .unset, .unset, .unset, .unset, .unset, .unset, .unset, .unset, .unset, .unset, .unset] [(.int (10 : Int32)), (.ref b4), (.ref b4)])) rfl (hb hby at_69)) ?_
  show Go p e below _ (T14.setTop (mkF m 72 _ [(.long (10000000000 : Int64)), (.int (10 : Int32)), (.ref b4), (.ref b4)]))
  obtain ⟨cl15, Ar15, in15, -⟩ := A_b4_14.hin (j := (10 : Int32)) (by decide) (by decide)
  obtain ⟨T15, h15, X15, e15, W15, st15⟩ := stJ X14 hx hZ e14 Ar15 in15 (g := (mkF m 72 #[.val (.long q1), .second, .val (.int p2), .val (.int p3), .unset, .unset, .unset, .unset, .unset, .unset, .unset, .unset, .unset, .unset, .unset, .unset, .unset, .unset, .unset, .unset, .unset, .unset, .unset, .unset, .unset, .unset, .unset, .unset, .unset] [(.long (10000000000 : Int64)), (.int (10 : Int32)), (.ref b4), (.ref b4)])) rfl rfl (hb hby at_72)
  refine Go.step st15 ?_
  have N15 := Fr.snoc X15 N14 g_b4
  have Z15 := Nat.le_trans Z14 (Keep.of_wr W15).1
  have KK15 : Keep h0 h15 [] := KK14.wr W15 (Or.inr sz_b4)
  have A_b4_15 : Ary Z h15 b4 .long 19 (fun i => .long ((upA (upA (upA (upA (upA (upA (upA (upA (upA (upA (upA (fun _ => (0 : Int64)) 0 (1 : Int64)) 1 (10 : Int64)) 2 (100 : Int64)) 3 (1000 : Int64)) 4 (10000 : Int64)) 5 (100000 : Int64)) 6 (1000000 : Int64)) 7 (10000000 : Int64)) 8 (100000000 : Int64)) 9 (1000000000 : Int64)) 10 (10000000000 : Int64)) i)) := A_b4_14.setJ W15 (by decide)
  show Go p e below _ (T15.setTop (mkF m 73 _ [(.ref b4)]))
  refine Go.step (fun t k => XS.dup X15.here hx rfl (hb hby at_73) rfl rfl k) ?_
  show Go p e below _ (T15.setTop (mkF m 74 _ [(.ref b4), (.ref b4)]))
  refine Go.step (fun t k => XS.bipush X15.here hx rfl (hb hby at_74)  k) ?_
  show Go p e below _ (T15.setTop (mkF m 76 _ [(.int (11 : Int32)), (.ref b4), (.ref b4)]))
  refine Go.step (X15.ldc2Long hx hown (mvT hZ (hw _ (List.mem_of_getElem? (i := 11) rfl))) (g := (mkF m 76 #[.val (.long q1), .second, .val (.int p2), .val (.int p3), .unset, .unset, .unset, .unset, .unset, .unset, .unset, .unset, .unset, .unset, .unset, .unset, .unset, .unset, .unset, .unset, .unset, .unset, .unset, .unset, .unset, .unset, .unset, .unset, .unset] [(.int (11 : Int32)), (.ref b4), (.ref b4)])) rfl (hb hby at_76)) ?_
  show Go p e below _ (T15.setTop (mkF m 79 _ [(.long (100000000000 : Int64)), (.int (11 : Int32)), (.ref b4), (.ref b4)]))
  obtain ⟨cl16, Ar16, in16, -⟩ := A_b4_15.hin (j := (11 : Int32)) (by decide) (by decide)
  obtain ⟨T16, h16, X16, e16, W16, st16⟩ := stJ X15 hx hZ e15 Ar16 in16 (g := (mkF m 79 #[.val (.long q1), .second, .val (.int p2), .val (.int p3), .unset, .unset, .unset, .unset, .unset, .unset, .unset, .unset, .unset, .unset, .unset, .unset, .unset, .unset, .unset, .unset, .unset, .unset, .unset, .unset, .unset, .unset, .unset, .unset, .unset] [(.long (100000000000 : Int64)), (.int (11 : Int32)), (.ref b4), (.ref b4)])) rfl rfl (hb hby at_79)
  refine Go.step st16 ?_
  have N16 := Fr.snoc X16 N15 g_b4
  have Z16 := Nat.le_trans Z15 (Keep.of_wr W16).1
  have KK16 : Keep h0 h16 [] := KK15.wr W16 (Or.inr sz_b4)
  have A_b4_16 : Ary Z h16 b4 .long 19 (fun i => .long ((upA (upA (upA (upA (upA (upA (upA (upA (upA (upA (upA (upA (fun _ => (0 : Int64)) 0 (1 : Int64)) 1 (10 : Int64)) 2 (100 : Int64)) 3 (1000 : Int64)) 4 (10000 : Int64)) 5 (100000 : Int64)) 6 (1000000 : Int64)) 7 (10000000 : Int64)) 8 (100000000 : Int64)) 9 (1000000000 : Int64)) 10 (10000000000 : Int64)) 11 (100000000000 : Int64)) i)) := A_b4_15.setJ W16 (by decide)
  show Go p e below _ (T16.setTop (mkF m 80 _ [(.ref b4)]))
  refine Go.step (fun t k => XS.dup X16.here hx rfl (hb hby at_80) rfl rfl k) ?_
  show Go p e below _ (T16.setTop (mkF m 81 _ [(.ref b4), (.ref b4)]))
  refine Go.step (fun t k => XS.bipush X16.here hx rfl (hb hby at_81)  k) ?_
  show Go p e below _ (T16.setTop (mkF m 83 _ [(.int (12 : Int32)), (.ref b4), (.ref b4)]))
  refine Go.step (X16.ldc2Long hx hown (mvT hZ (hw _ (List.mem_of_getElem? (i := 12) rfl))) (g := (mkF m 83 #[.val (.long q1), .second, .val (.int p2), .val (.int p3), .unset, .unset, .unset, .unset, .unset, .unset, .unset, .unset, .unset, .unset, .unset, .unset, .unset, .unset, .unset, .unset, .unset, .unset, .unset, .unset, .unset, .unset, .unset, .unset, .unset] [(.int (12 : Int32)), (.ref b4), (.ref b4)])) rfl (hb hby at_83)) ?_
  show Go p e below _ (T16.setTop (mkF m 86 _ [(.long (1000000000000 : Int64)), (.int (12 : Int32)), (.ref b4), (.ref b4)]))
  obtain ⟨cl17, Ar17, in17, -⟩ := A_b4_16.hin (j := (12 : Int32)) (by decide) (by decide)
  obtain ⟨T17, h17, X17, e17, W17, st17⟩ := stJ X16 hx hZ e16 Ar17 in17 (g := (mkF m 86 #[.val (.long q1), .second, .val (.int p2), .val (.int p3), .unset, .unset, .unset, .unset, .unset, .unset, .unset, .unset, .unset, .unset, .unset, .unset, .unset, .unset, .unset, .unset, .unset, .unset, .unset, .unset, .unset, .unset, .unset, .unset, .unset] [(.long (1000000000000 : Int64)), (.int (12 : Int32)), (.ref b4), (.ref b4)])) rfl rfl (hb hby at_86)
  refine Go.step st17 ?_
  have N17 := Fr.snoc X17 N16 g_b4
  have Z17 := Nat.le_trans Z16 (Keep.of_wr W17).1
  have KK17 : Keep h0 h17 [] := KK16.wr W17 (Or.inr sz_b4)
  have A_b4_17 : Ary Z h17 b4 .long 19 (fun i => .long ((upA (upA (upA (upA (upA (upA (upA (upA (upA (upA (upA (upA (upA (fun _ => (0 : Int64)) 0 (1 : Int64)) 1 (10 : Int64)) 2 (100 : Int64)) 3 (1000 : Int64)) 4 (10000 : Int64)) 5 (100000 : Int64)) 6 (1000000 : Int64)) 7 (10000000 : Int64)) 8 (100000000 : Int64)) 9 (1000000000 : Int64)) 10 (10000000000 : Int64)) 11 (100000000000 : Int64)) 12 (1000000000000 : Int64)) i)) := A_b4_16.setJ W17 (by decide)
  show Go p e below _ (T17.setTop (mkF m 87 _ [(.ref b4)]))
  refine Go.step (fun t k => XS.dup X17.here hx rfl (hb hby at_87) rfl rfl k) ?_
  show Go p e below _ (T17.setTop (mkF m 88 _ [(.ref b4), (.ref b4)]))
  refine Go.step (fun t k => XS.bipush X17.here hx rfl (hb hby at_88)  k) ?_
  show Go p e below _ (T17.setTop (mkF m 90 _ [(.int (13 : Int32)), (.ref b4), (.ref b4)]))
  refine Go.step (X17.ldc2Long hx hown (mvT hZ (hw _ (List.mem_of_getElem? (i := 13) rfl))) (g := (mkF m 90 #[.val (.long q1), .second, .val (.int p2), .val (.int p3), .unset, .unset, .unset, .unset, .unset, .unset, .unset, .unset, .unset, .unset, .unset, .unset, .unset, .unset, .unset, .unset, .unset, .unset, .unset, .unset, .unset, .unset, .unset, .unset, .unset] [(.int (13 : Int32)), (.ref b4), (.ref b4)])) rfl (hb hby at_90)) ?_
  show Go p e below _ (T17.setTop (mkF m 93 _ [(.long (10000000000000 : Int64)), (.int (13 : Int32)), (.ref b4), (.ref b4)]))
  obtain ⟨cl18, Ar18, in18, -⟩ := A_b4_17.hin (j := (13 : Int32)) (by decide) (by decide)
  obtain ⟨T18, h18, X18, e18, W18, st18⟩ := stJ X17 hx hZ e17 Ar18 in18 (g := (mkF m 93 #[.val (.long q1), .second, .val (.int p2), .val (.int p3), .unset, .unset, .unset, .unset, .unset, .unset, .unset, .unset, .unset, .unset, .unset, .unset, .unset, .unset, .unset, .unset, .unset, .unset, .unset, .unset, .unset, .unset, .unset, .unset, .unset] [(.long (10000000000000 : Int64)), (.int (13 : Int32)), (.ref b4), (.ref b4)])) rfl rfl (hb hby at_93)
  refine Go.step st18 ?_
  have N18 := Fr.snoc X18 N17 g_b4
  have Z18 := Nat.le_trans Z17 (Keep.of_wr W18).1
  have KK18 : Keep h0 h18 [] := KK17.wr W18 (Or.inr sz_b4)
  have A_b4_18 : Ary Z h18 b4 .long 19 (fun i => .long ((upA (upA (upA (upA (upA (upA (upA (upA (upA (upA (upA (upA (upA (upA (fun _ => (0 : Int64)) 0 (1 : Int64)) 1 (10 : Int64)) 2 (100 : Int64)) 3 (1000 : Int64)) 4 (10000 : Int64)) 5 (100000 : Int64)) 6 (1000000 : Int64)) 7 (10000000 : Int64)) 8 (100000000 : Int64)) 9 (1000000000 : Int64)) 10 (10000000000 : Int64)) 11 (100000000000 : Int64)) 12 (1000000000000 : Int64)) 13 (10000000000000 : Int64)) i)) := A_b4_17.setJ W18 (by decide)
  show Go p e below _ (T18.setTop (mkF m 94 _ [(.ref b4)]))
  refine Go.step (fun t k => XS.dup X18.here hx rfl (hb hby at_94) rfl rfl k) ?_
  show Go p e below _ (T18.setTop (mkF m 95 _ [(.ref b4), (.ref b4)]))
  refine Go.step (fun t k => XS.bipush X18.here hx rfl (hb hby at_95)  k) ?_
  show Go p e below _ (T18.setTop (mkF m 97 _ [(.int (14 : Int32)), (.ref b4), (.ref b4)]))
  refine Go.step (X18.ldc2Long hx hown (mvT hZ (hw _ (List.mem_of_getElem? (i := 14) rfl))) (g := (mkF m 97 #[.val (.long q1), .second, .val (.int p2), .val (.int p3), .unset, .unset, .unset, .unset, .unset, .unset, .unset, .unset, .unset, .unset, .unset, .unset, .unset, .unset, .unset, .unset, .unset, .unset, .unset, .unset, .unset, .unset, .unset, .unset, .unset] [(.int (14 : Int32)), (.ref b4), (.ref b4)])) rfl (hb hby at_97)) ?_
  show Go p e below _ (T18.setTop (mkF m 100 _ [(.long (100000000000000 : Int64)), (.int (14 : Int32)), (.ref b4), (.ref b4)]))
  obtain ⟨cl19, Ar19, in19, -⟩ := A_b4_18.hin (j := (14 : Int32)) (by decide) (by decide)
  obtain ⟨T19, h19, X19, e19, W19, st19⟩ := stJ X18 hx hZ e18 Ar19 in19 (g := (mkF m 100 #[.val (.long q1), .second, .val (.int p2), .val (.int p3), .unset, .unset, .unset, .unset, .unset, .unset, .unset, .unset, .unset, .unset, .unset, .unset, .unset, .unset, .unset, .unset, .unset, .unset, .unset, .unset, .unset, .unset, .unset, .unset, .unset] [(.long (100000000000000 : Int64)), (.int (14 : Int32)), (.ref b4), (.ref b4)])) rfl rfl (hb hby at_100)
  refine Go.step st19 ?_
  have N19 := Fr.snoc X19 N18 g_b4
  have Z19 := Nat.le_trans Z18 (Keep.of_wr W19).1
  have KK19 : Keep h0 h19 [] := KK18.wr W19 (Or.inr sz_b4)
  have A_b4_19 : Ary Z h19 b4 .long 19 (fun i => .long ((upA (upA (upA (upA (upA (upA (upA (upA (upA (upA (upA (upA (upA (upA (upA (fun _ => (0 : Int64)) 0 (1 : Int64)) 1 (10 : Int64)) 2 (100 : Int64)) 3 (1000 : Int64)) 4 (10000 : Int64)) 5 (100000 : Int64)) 6 (1000000 : Int64)) 7 (10000000 : Int64)) 8 (100000000 : Int64)) 9 (1000000000 : Int64)) 10 (10000000000 : Int64)) 11 (100000000000 : Int64)) 12 (1000000000000 : Int64)) 13 (10000000000000 : Int64)) 14 (100000000000000 : Int64)) i)) := A_b4_18.setJ W19 (by decide)
  show Go p e below _ (T19.setTop (mkF m 101 _ [(.ref b4)]))
  refine Go.step (fun t k => XS.dup X19.here hx rfl (hb hby at_101) rfl rfl k) ?_
  show Go p e below _ (T19.setTop (mkF m 102 _ [(.ref b4), (.ref b4)]))
  refine Go.step (fun t k => XS.bipush X19.here hx rfl (hb hby at_102)  k) ?_
  show Go p e below _ (T19.setTop (mkF m 104 _ [(.int (15 : Int32)), (.ref b4), (.ref b4)]))
  refine Go.step (X19.ldc2Long hx hown (mvT hZ (hw _ (List.mem_of_getElem? (i := 15) rfl))) (g := (mkF m 104 #[.val (.long q1), .second, .val (.int p2), .val (.int p3), .unset, .unset, .unset, .unset, .unset, .unset, .unset, .unset, .unset, .unset, .unset, .unset, .unset, .unset, .unset, .unset, .unset, .unset, .unset, .unset, .unset, .unset, .unset, .unset, .unset] [(.int (15 : Int32)), (.ref b4), (.ref b4)])) rfl (hb hby at_104)) ?_
  show Go p e below _ (T19.setTop (mkF m 107 _ [(.long (1000000000000000 : Int64)), (.int (15 : Int32)), (.ref b4), (.ref b4)]))
  obtain ⟨cl20, Ar20, in20, -⟩ := A_b4_19.hin (j := (15 : Int32)) (by decide) (by decide)
  obtain ⟨T20, h20, X20, e20, W20, st20⟩ := stJ X19 hx hZ e19 Ar20 in20 (g := (mkF m 107 #[.val (.long q1), .second, .val (.int p2), .val (.int p3), .unset, .unset, .unset, .unset, .unset, .unset, .unset, .unset, .unset, .unset, .unset, .unset, .unset, .unset, .unset, .unset, .unset, .unset, .unset, .unset, .unset, .unset, .unset, .unset, .unset] [(.long (1000000000000000 : Int64)), (.int (15 : Int32)), (.ref b4), (.ref b4)])) rfl rfl (hb hby at_107)
  refine Go.step st20 ?_
  have N20 := Fr.snoc X20 N19 g_b4
  have Z20 := Nat.le_trans Z19 (Keep.of_wr W20).1
  have KK20 : Keep h0 h20 [] := KK19.wr W20 (Or.inr sz_b4)
  have A_b4_20 : Ary Z h20 b4 .long 19 (fun i => .long ((upA (upA (upA (upA (upA (upA (upA (upA (upA (upA (upA (upA (upA (upA (upA (upA (fun _ => (0 : Int64)) 0 (1 : Int64)) 1 (10 : Int64)) 2 (100 : Int64)) 3 (1000 : Int64)) 4 (10000 : Int64)) 5 (100000 : Int64)) 6 (1000000 : Int64)) 7 (10000000 : Int64)) 8 (100000000 : Int64)) 9 (1000000000 : Int64)) 10 (10000000000 : Int64)) 11 (100000000000 : Int64)) 12 (1000000000000 : Int64)) 13 (10000000000000 : Int64)) 14 (100000000000000 : Int64)) 15 (1000000000000000 : Int64)) i)) := A_b4_19.setJ W20 (by decide)
  show Go p e below _ (T20.setTop (mkF m 108 _ [(.ref b4)]))
  refine Go.step (fun t k => XS.dup X20.here hx rfl (hb hby at_108) rfl rfl k) ?_
  show Go p e below _ (T20.setTop (mkF m 109 _ [(.ref b4), (.ref b4)]))
  refine Go.step (fun t k => XS.bipush X20.here hx rfl (hb hby at_109)  k) ?_
  show Go p e below _ (T20.setTop (mkF m 111 _ [(.int (16 : Int32)), (.ref b4), (.ref b4)]))
  refine Go.step (X20.ldc2Long hx hown (mvT hZ (hw _ (List.mem_of_getElem? (i := 16) rfl))) (g := (mkF m 111 #[.val (.long q1), .second, .val (.int p2), .val (.int p3), .unset, .unset, .unset, .unset, .unset, .unset, .unset, .unset, .unset, .unset, .unset, .unset, .unset, .unset, .unset, .unset, .unset, .unset, .unset, .unset, .unset, .unset, .unset, .unset, .unset] [(.int (16 : Int32)), (.ref b4), (.ref b4)])) rfl (hb hby at_111)) ?_
  show Go p e below _ (T20.setTop (mkF m 114 _ [(.long (10000000000000000 : Int64)), (.int (16 : Int32)), (.ref b4), (.ref b4)]))
  obtain ⟨cl21, Ar21, in21, -⟩ := A_b4_20.hin (j := (16 : Int32)) (by decide) (by decide)
  obtain ⟨T21, h21, X21, e21, W21, st21⟩ := stJ X20 hx hZ e20 Ar21 in21 (g := (mkF m 114 #[.val (.long q1), .second, .val (.int p2), .val (.int p3), .unset, .unset, .unset, .unset, .unset, .unset, .unset, .unset, .unset, .unset, .unset, .unset, .unset, .unset, .unset, .unset, .unset, .unset, .unset, .unset, .unset, .unset, .unset, .unset, .unset] [(.long (10000000000000000 : Int64)), (.int (16 : Int32)), (.ref b4), (.ref b4)])) rfl rfl (hb hby at_114)
  refine Go.step st21 ?_
  have N21 := Fr.snoc X21 N20 g_b4
  have Z21 := Nat.le_trans Z20 (Keep.of_wr W21).1
  have KK21 : Keep h0 h21 [] := KK20.wr W21 (Or.inr sz_b4)
  have A_b4_21 : Ary Z h21 b4 .long 19 (fun i => .long ((upA (upA (upA (upA (upA (upA (upA (upA (upA (upA (upA (upA (upA (upA (upA (upA (upA (fun _ => (0 : Int64)) 0 (1 : Int64)) 1 (10 : Int64)) 2 (100 : Int64)) 3 (1000 : Int64)) 4 (10000 : Int64)) 5 (100000 : Int64)) 6 (1000000 : Int64)) 7 (10000000 : Int64)) 8 (100000000 : Int64)) 9 (1000000000 : Int64)) 10 (10000000000 : Int64)) 11 (100000000000 : Int64)) 12 (1000000000000 : Int64)) 13 (10000000000000 : Int64)) 14 (100000000000000 : Int64)) 15 (1000000000000000 : Int64)) 16 (10000000000000000 : Int64)) i)) := A_b4_20.setJ W21 (by decide)
  show Go p e below _ (T21.setTop (mkF m 115 _ [(.ref b4)]))
  refine Go.step (fun t k => XS.dup X21.here hx rfl (hb hby at_115) rfl rfl k) ?_
  show Go p e below _ (T21.setTop (mkF m 116 _ [(.ref b4), (.ref b4)]))
  refine Go.step (fun t k => XS.bipush X21.here hx rfl (hb hby at_116)  k) ?_
  show Go p e below _ (T21.setTop (mkF m 118 _ [(.int (17 : Int32)), (.ref b4), (.ref b4)]))
  refine Go.step (X21.ldc2Long hx hown (mvT hZ (hw _ (List.mem_of_getElem? (i := 17) rfl))) (g := (mkF m 118 #[.val (.long q1), .second, .val (.int p2), .val (.int p3), .unset, .unset, .unset, .unset, .unset, .unset, .unset, .unset, .unset, .unset, .unset, .unset, .unset, .unset, .unset, .unset, .unset, .unset, .unset, .unset, .unset, .unset, .unset, .unset, .unset] [(.int (17 : Int32)), (.ref b4), (.ref b4)])) rfl (hb hby at_118)) ?_
  show Go p e below _ (T21.setTop (mkF m 121 _ [(.long (100000000000000000 : Int64)), (.int (17 : Int32)), (.ref b4), (.ref b4)]))
  obtain ⟨cl22, Ar22, in22, -⟩ := A_b4_21.hin (j := (17 : Int32)) (by decide) (by decide)
  obtain ⟨T22, h22, X22, e22, W22, st22⟩ := stJ X21 hx hZ e21 Ar22 in22 (g := (mkF m 121 #[.val (.long q1), .second, .val (.int p2), .val (.int p3), .unset, .unset, .unset, .unset, .unset, .unset, .unset, .unset, .unset, .unset, .unset, .unset, .unset, .unset, .unset, .unset, .unset, .unset, .unset, .unset, .unset, .unset, .unset, .unset, .unset] [(.long (100000000000000000 : Int64)), (.int (17 : Int32)), (.ref b4), (.ref b4)])) rfl rfl (hb hby at_121)
  refine Go.step st22 ?_
  have N22 := Fr.snoc X22 N21 g_b4
  have Z22 := Nat.le_trans Z21 (Keep.of_wr W22).1
  have KK22 : Keep h0 h22 [] := KK21.wr W22 (Or.inr sz_b4)
  have A_b4_22 : Ary Z h22 b4 .long 19 (fun i => .long ((upA (upA (upA (upA (upA (upA (upA (upA (upA (upA (upA (upA (upA (upA (upA (upA (upA (upA (fun _ => (0 : Int64)) 0 (1 : Int64)) 1 (10 : Int64)) 2 (100 : Int64)) 3 (1000 : Int64)) 4 (10000 : Int64)) 5 (100000 : Int64)) 6 (1000000 : Int64)) 7 (10000000 : Int64)) 8 (100000000 : Int64)) 9 (1000000000 : Int64)) 10 (10000000000 : Int64)) 11 (100000000000 : Int64)) 12 (1000000000000 : Int64)) 13 (10000000000000 : Int64)) 14 (100000000000000 : Int64)) 15 (1000000000000000 : Int64)) 16 (10000000000000000 : Int64)) 17 (100000000000000000 : Int64)) i)) := A_b4_21.setJ W22 (by decide)
  show Go p e below _ (T22.setTop (mkF m 122 _ [(.ref b4)]))
  refine Go.step (fun t k => XS.dup X22.here hx rfl (hb hby at_122) rfl rfl k) ?_
  show Go p e below _ (T22.setTop (mkF m 123 _ [(.ref b4), (.ref b4)]))
  refine Go.step (fun t k => XS.bipush X22.here hx rfl (hb hby at_123)  k) ?_
  show Go p e below _ (T22.setTop (mkF m 125 _ [(.int (18 : Int32)), (.ref b4), (.ref b4)]))
  refine Go.step (X22.ldc2Long hx hown (mvT hZ (hw _ (List.mem_of_getElem? (i := 18) rfl))) (g := (mkF m 125 #[.val (.long q1), .second, .val (.int p2), .val (.int p3), .unset, .unset, .unset, .unset, .unset, .unset, .unset, .unset, .unset, .unset, .unset, .unset, .unset, .unset, .unset, .unset, .unset, .unset, .unset, .unset, .unset, .unset, .unset, .unset, .unset] [(.int (18 : Int32)), (.ref b4), (.ref b4)])) rfl (hb hby at_125)) ?_
  show Go p e below _ (T22.setTop (mkF m 128 _ [(.long (1000000000000000000 : Int64)), (.int (18 : Int32)), (.ref b4), (.ref b4)]))
  obtain ⟨cl23, Ar23, in23, -⟩ := A_b4_22.hin (j := (18 : Int32)) (by decide) (by decide)
  obtain ⟨T23, h23, X23, e23, W23, st23⟩ := stJ X22 hx hZ e22 Ar23 in23 (g := (mkF m 128 #[.val (.long q1), .second, .val (.int p2), .val (.int p3), .unset, .unset, .unset, .unset, .unset, .unset, .unset, .unset, .unset, .unset, .unset, .unset, .unset, .unset, .unset, .unset, .unset, .unset, .unset, .unset, .unset, .unset, .unset, .unset, .unset] [(.long (1000000000000000000 : Int64)), (.int (18 : Int32)), (.ref b4), (.ref b4)])) rfl rfl (hb hby at_128)
  refine Go.step st23 ?_
  have N23 := Fr.snoc X23 N22 g_b4
  have Z23 := Nat.le_trans Z22 (Keep.of_wr W23).1
  have KK23 : Keep h0 h23 [] := KK22.wr W23 (Or.inr sz_b4)
  have A_b4_23 : Ary Z h23 b4 .long 19 (fun i => .long ((upA (upA (upA (upA (upA (upA (upA (upA (upA (upA (upA (upA (upA (upA (upA (upA (upA (upA (upA (fun _ => (0 : Int64)) 0 (1 : Int64)) 1 (10 : Int64)) 2 (100 : Int64)) 3 (1000 : Int64)) 4 (10000 : Int64)) 5 (100000 : Int64)) 6 (1000000 : Int64)) 7 (10000000 : Int64)) 8 (100000000 : Int64)) 9 (1000000000 : Int64)) 10 (10000000000 : Int64)) 11 (100000000000 : Int64)) 12 (1000000000000 : Int64)) 13 (10000000000000 : Int64)) 14 (100000000000000 : Int64)) 15 (1000000000000000 : Int64)) 16 (10000000000000000 : Int64)) 17 (100000000000000000 : Int64)) 18 (1000000000000000000 : Int64)) i)) := A_b4_22.setJ W23 (by decide)
  show Go p e below _ (T23.setTop (mkF m 129 _ [(.ref b4)]))
  refine Go.step (fun t k => XS.astore X23.here hx rfl (hb hby at_129) rfl rfl (l' := #[.val (.long q1), .second, .val (.int p2), .val (.int p3), .val (.ref b4), .unset, .unset, .unset, .unset, .unset, .unset, .unset, .unset, .unset, .unset, .unset, .unset, .unset, .unset, .unset, .unset, .unset, .unset, .unset, .unset, .unset, .unset, .unset, .unset]) rfl k) ?_
  show Go p e below _ (T23.setTop (mkF m 131 _ []))
  have A_b4_23e : Ary Z h23 b4 .long 19 (fun i => .long (powF i)) := A_b4_23.congr fun i hi => congrArg Value.long ((by decide +kernel : ∀ i : Fin 19, (upA (upA (upA (upA (upA (upA (upA (upA (upA (upA (upA (upA (upA (upA (upA (upA (upA (upA (upA (fun _ => (0 : Int64)) 0 (1 : Int64)) 1 (10 : Int64)) 2 (100 : Int64)) 3 (1000 : Int64)) 4 (10000 : Int64)) 5 (100000 : Int64)) 6 (1000000 : Int64)) 7 (10000000 : Int64)) 8 (100000000 : Int64)) 9 (1000000000 : Int64)) 10 (10000000000 : Int64)) 11 (100000000000 : Int64)) 12 (1000000000000 : Int64)) 13 (10000000000000 : Int64)) 14 (100000000000000 : Int64)) 15 (1000000000000000 : Int64)) 16 (10000000000000000 : Int64)) 17 (100000000000000000 : Int64)) 18 (1000000000000000000 : Int64)) i.val = powF i.val) ⟨i, hi⟩)
  show Go p e below _ (T23.setTop (mkF m 131 _ []))
  refine gI (q := 132) X23 hx (hb hby at_131) rfl rfl ?_
  refine Go.step (fun t k => XS.bipush X23.here hx rfl (hb hby at_132)  k) ?_
  show Go p e below _ (T23.setTop (mkF m 134 _ [(.int (31 : Int32)), (.int p2)]))
  refine Go.step (fun t k => XS.iand X23.here hx rfl (hb hby at_134) rfl k) ?_
  show Go p e below _ (T23.setTop (mkF m 135 _ [(.int (p2 &&& (31 : Int32)))]))
  refine Go.step (fun t k => XS.bipush X23.here hx rfl (hb hby at_135)  k) ?_
  show Go p e below _ (T23.setTop (mkF m 137 _ [(.int (20 : Int32)), (.int (p2 &&& (31 : Int32)))]))
  refine Go.step (fun t (k : Steps p.tables e below (T23.setTop (mkF m 138 #[.val (.long q1), .second, .val (.int p2), .val (.int p3), .val (.ref b4), .unset, .unset, .unset, .unset, .unset, .unset, .unset, .unset, .unset, .unset, .unset, .unset, .unset, .unset, .unset, .unset, .unset, .unset, .unset, .unset, .unset, .unset, .unset, .unset] [(.int ((p2 &&& (31 : Int32)) % (20 : Int32)))])) t) => XS.irem X23.here hx rfl (hb hby at_137) rfl (by decide) (by rw [remI]; exact k)) ?_
  show Go p e below _ (T23.setTop (mkF m 138 _ [(.int ((p2 &&& (31 : Int32)) % (20 : Int32)))]))
  refine nameIt (fun zz : Int32 => Go p e below _ (T23.setTop (mkF m 138 #[.val (.long q1), .second, .val (.int p2), .val (.int p3), .val (.ref b4), .unset, .unset, .unset, .unset, .unset, .unset, .unset, .unset, .unset, .unset, .unset, .unset, .unset, .unset, .unset, .unset, .unset, .unset, .unset, .unset, .unset, .unset, .unset, .unset] [(.int zz)]))) ((p2 &&& (31 : Int32)) % (20 : Int32)) ?_
  intro v24 hv24
  show Go p e below _ (T23.setTop (mkF m 138 _ [(.int v24)]))
  refine Go.step (fun t k => XS.istore X23.here hx rfl (hb hby at_138) rfl (l' := #[.val (.long q1), .second, .val (.int p2), .val (.int p3), .val (.ref b4), .val (.int v24), .unset, .unset, .unset, .unset, .unset, .unset, .unset, .unset, .unset, .unset, .unset, .unset, .unset, .unset, .unset, .unset, .unset, .unset, .unset, .unset, .unset, .unset, .unset]) rfl k) ?_
  show Go p e below _ (T23.setTop (mkF m 140 _ []))
  refine gI (q := 141) X23 hx (hb hby at_140) rfl rfl ?_
  refine gC (q := 142) (v := 5) X23 hx (hb hby at_141) rfl rfl ?_
  refine Go.step (fun t k => XS.iushr X23.here hx rfl (hb hby at_142) rfl k) ?_
  show Go p e below _ (T23.setTop (mkF m 143 _ [(.int ((p2.toUInt32 >>> ((5 : Int32) &&& 31).toUInt32).toInt32))]))
  refine gC (q := 144) (v := 1) X23 hx (hb hby at_143) rfl rfl ?_
  refine Go.step (fun t k => XS.iand X23.here hx rfl (hb hby at_144) rfl k) ?_
  show Go p e below _ (T23.setTop (mkF m 145 _ [(.int (((p2.toUInt32 >>> ((5 : Int32) &&& 31).toUInt32).toInt32) &&& (1 : Int32)))]))
  obtain ⟨v26, hv26⟩ : ∃ z : Int32, z = (if (((p2.toUInt32 >>> ((5 : Int32) &&& 31).toUInt32).toInt32) &&& (1 : Int32)) = (0 : Int32) then (0 : Int32) else (1 : Int32)) := ⟨_, rfl⟩
  have J145 : Go p e below (AtF p l e room_1 s m #[(.long q1), (.int p2), (.int p3)] below meth c n0 1 19 h23 (mkF m 153 #[.val (.long q1), .second, .val (.int p2), .val (.int p3), .val (.ref b4), .val (.int v24), .unset, .unset, .unset, .unset, .unset, .unset, .unset, .unset, .unset, .unset, .unset, .unset, .unset, .unset, .unset, .unset, .unset, .unset, .unset, .unset, .unset, .unset, .unset] [(.int v26)])) (T23.setTop (mkF m 145 #[.val (.long q1), .second, .val (.int p2), .val (.int p3), .val (.ref b4), .val (.int v24), .unset, .unset, .unset, .unset, .unset, .unset, .unset, .unset, .unset, .unset, .unset, .unset, .unset, .unset, .unset, .unset, .unset, .unset, .unset, .unset, .unset, .unset, .unset] [(.int (((p2.toUInt32 >>> ((5 : Int32) &&& 31).toUInt32).toInt32) &&& (1 : Int32)))])) := by
   by_cases hc25 : (((p2.toUInt32 >>> ((5 : Int32) &&& 31).toUInt32).toInt32) &&& (1 : Int32)) = (0 : Int32)
   · refine Go.step (fun t k => XS.ifYes X23.here hx rfl (pc0 := 145) (pc' := 152) rfl (hb hby at_145) rfl ((if0 _ _).trans (teq hc25).1) (by decide) (by decide) k) ?_
     show Go p e below _ (T23.setTop (mkF m 152 _ []))
     refine gC (q := 153) (v := 0) X23 hx (hb hby at_152) rfl rfl ?_
     show Go p e below _ (T23.setTop (mkF m 153 _ [(.int (0 : Int32))]))
     exact Go.here ⟨_, _, by simp only [hv26, if_pos hc25], X23, N23, e23⟩
   · refine Go.step (fun t k => XS.ifNo X23.here hx rfl (hb hby at_145) rfl ((if0 _ _).trans (feq hc25).1) k) ?_
     show Go p e below _ (T23.setTop (mkF m 148 _ []))
     refine gC (q := 149) (v := 1) X23 hx (hb hby at_148) rfl rfl ?_
     refine Go.step (fun t k => XS.goto X23.here hx rfl (pc0 := 149) (pc' := 153) rfl (hb hby at_149) (by decide) (by decide) k) ?_
     show Go p e below _ (T23.setTop (mkF m 153 _ [(.int (1 : Int32))]))
     exact Go.here ⟨_, _, by simp only [hv26, if_neg hc25], X23, N23, e23⟩
  obtain ⟨_, st27, T27, Lj27, rfl, X27, N27, e27⟩ := J145
  refine Go.trans st27 ?_
  show Go p e below _ (T27.setTop (mkF m 153 _ [(.int v26)]))
  refine Go.step (fun t k => XS.istore X27.here hx rfl (hb hby at_153) rfl (l' := #[.val (.long q1), .second, .val (.int p2), .val (.int p3), .val (.ref b4), .val (.int v24), .val (.int v26), .unset, .unset, .unset, .unset, .unset, .unset, .unset, .unset, .unset, .unset, .unset, .unset, .unset, .unset, .unset, .unset, .unset, .unset, .unset, .unset, .unset, .unset]) rfl k) ?_
  show Go p e below _ (T27.setTop (mkF m 155 _ []))
  refine gI (q := 156) X27 hx (hb hby at_155) rfl rfl ?_
  refine Go.step (fun t k => XS.bipush X27.here hx rfl (hb hby at_156)  k) ?_
  show Go p e below _ (T27.setTop (mkF m 158 _ [(.int (6 : Int32)), (.int p2)]))
  refine Go.step (fun t k => XS.iushr X27.here hx rfl (hb hby at_158) rfl k) ?_
  show Go p e below _ (T27.setTop (mkF m 159 _ [(.int ((p2.toUInt32 >>> ((6 : Int32) &&& 31).toUInt32).toInt32))]))
  refine gC (q := 160) (v := 1) X27 hx (hb hby at_159) rfl rfl ?_
  refine Go.step (fun t k => XS.iand X27.here hx rfl (hb hby at_160) rfl k) ?_
  show Go p e below _ (T27.setTop (mkF m 161 _ [(.int (((p2.toUInt32 >>> ((6 : Int32) &&& 31).toUInt32).toInt32) &&& (1 : Int32)))]))
  obtain ⟨v29, hv29⟩ : ∃ z : Int32, z = (if (((p2.toUInt32 >>> ((6 : Int32) &&& 31).toUInt32).toInt32) &&& (1 : Int32)) = (0 : Int32) then (0 : Int32) else (1 : Int32)) := ⟨_, rfl⟩
  have J161 : Go p e below (AtF p l e room_1 s m #[(.long q1), (.int p2), (.int p3)] below meth c n0 1 19 h23 (mkF m 169 #[.val (.long q1), .second, .val (.int p2), .val (.int p3), .val (.ref b4), .val (.int v24), .val (.int v26), .unset, .unset, .unset, .unset, .unset, .unset, .unset, .unset, .unset, .unset, .unset, .unset, .unset, .unset, .unset, .unset, .unset, .unset, .unset, .unset, .unset, .unset] [(.int v29)])) (T27.setTop (mkF m 161 #[.val (.long q1), .second, .val (.int p2), .val (.int p3), .val (.ref b4), .val (.int v24), .val (.int v26), .unset, .unset, .unset, .unset, .unset, .unset, .unset, .unset, .unset, .unset, .unset, .unset, .unset, .unset, .unset, .unset, .unset, .unset, .unset, .unset, .unset, .unset] [(.int (((p2.toUInt32 >>> ((6 : Int32) &&& 31).toUInt32).toInt32) &&& (1 : Int32)))])) := by
   by_cases hc28 : (((p2.toUInt32 >>> ((6 : Int32) &&& 31).toUInt32).toInt32) &&& (1 : Int32)) = (0 : Int32)
   · refine Go.step (fun t k => XS.ifYes X27.here hx rfl (pc0 := 161) (pc' := 168) rfl (hb hby at_161) rfl ((if0 _ _).trans (teq hc28).1) (by decide) (by decide) k) ?_
     show Go p e below _ (T27.setTop (mkF m 168 _ []))
     refine gC (q := 169) (v := 0) X27 hx (hb hby at_168) rfl rfl ?_
     show Go p e below _ (T27.setTop (mkF m 169 _ [(.int (0 : Int32))]))
     exact Go.here ⟨_, _, by simp only [hv29, if_pos hc28], X27, N27, e27⟩
   · refine Go.step (fun t k => XS.ifNo X27.here hx rfl (hb hby at_161) rfl ((if0 _ _).trans (feq hc28).1) k) ?_
     show Go p e below _ (T27.setTop (mkF m 164 _ []))
     refine gC (q := 165) (v := 1) X27 hx (hb hby at_164) rfl rfl ?_
     refine Go.step (fun t k => XS.goto X27.here hx rfl (pc0 := 165) (pc' := 169) rfl (hb hby at_165) (by decide) (by decide) k) ?_
     show Go p e below _ (T27.setTop (mkF m 169 _ [(.int (1 : Int32))]))
     exact Go.here ⟨_, _, by simp only [hv29, if_neg hc28], X27, N27, e27⟩
  obtain ⟨_, st30, T30, Lj30, rfl, X30, N30, e30⟩ := J161
  refine Go.trans st30 ?_
  show Go p e below _ (T30.setTop (mkF m 169 _ [(.int v29)]))
  refine Go.step (fun t k => XS.istore X30.here hx rfl (hb hby at_169) rfl (l' := #[.val (.long q1), .second, .val (.int p2), .val (.int p3), .val (.ref b4), .val (.int v24), .val (.int v26), .val (.int v29), .unset, .unset, .unset, .unset, .unset, .unset, .unset, .unset, .unset, .unset, .unset, .unset, .unset, .unset, .unset, .unset, .unset, .unset, .unset, .unset, .unset]) rfl k) ?_
  show Go p e below _ (T30.setTop (mkF m 171 _ []))
  refine gI (q := 172) X30 hx (hb hby at_171) rfl rfl ?_
  refine Go.step (fun t k => XS.bipush X30.here hx rfl (hb hby at_172)  k) ?_
  show Go p e below _ (T30.setTop (mkF m 174 _ [(.int (7 : Int32)), (.int p2)]))
  refine Go.step (fun t k => XS.iushr X30.here hx rfl (hb hby at_174) rfl k) ?_
  show Go p e below _ (T30.setTop (mkF m 175 _ [(.int ((p2.toUInt32 >>> ((7 : Int32) &&& 31).toUInt32).toInt32))]))
  refine Go.step (fun t k => XS.bipush X30.here hx rfl (hb hby at_175)  k) ?_
  show Go p e below _ (T30.setTop (mkF m 177 _ [(.int (31 : Int32)), (.int ((p2.toUInt32 >>> ((7 : Int32) &&& 31).toUInt32).toInt32))]))
  refine Go.step (fun t k => XS.iand X30.here hx rfl (hb hby at_177) rfl k) ?_
  show Go p e below _ (T30.setTop (mkF m 178 _ [(.int (((p2.toUInt32 >>> ((7 : Int32) &&& 31).toUInt32).toInt32) &&& (31 : Int32)))]))
  refine gJ (q := 180) X30 hx (hb hby at_178) rfl rfl ?_
  refine gC (q := 181) (v := 1) X30 hx (hb hby at_180) rfl rfl ?_
  refine Go.step (fun t k => XS.iadd X30.here hx rfl (hb hby at_181) rfl k) ?_
  show Go p e below _ (T30.setTop (mkF m 182 _ [(.int (v24 + (1 : Int32))), (.int (((p2.toUInt32 >>> ((7 : Int32) &&& 31).toUInt32).toInt32) &&& (31 : Int32)))]))
  refine Go.step (fun t (k : Steps p.tables e below (T30.setTop (mkF m 183 #[.val (.long q1), .second, .val (.int p2), .val (.int p3), .val (.ref b4), .val (.int v24), .val (.int v26), .val (.int v29), .unset, .unset, .unset, .unset, .unset, .unset, .unset, .unset, .unset, .unset, .unset, .unset, .unset, .unset, .unset, .unset, .unset, .unset, .unset, .unset, .unset] [(.int ((((p2.toUInt32 >>> ((7 : Int32) &&& 31).toUInt32).toInt32) &&& (31 : Int32)) % (v24 + (1 : Int32))))])) t) => XS.irem X30.here hx rfl (hb hby at_182) rfl (own_n1 (own_n hv24)) (by rw [remI]; exact k)) ?_
  show Go p e below _ (T30.setTop (mkF m 183 _ [(.int ((((p2.toUInt32 >>> ((7 : Int32) &&& 31).toUInt32).toInt32) &&& (31 : Int32)) % (v24 + (1 : Int32))))]))
  refine nameIt (fun zz : Int32 => Go p e below _ (T30.setTop (mkF m 183 #[.val (.long q1), .second, .val (.int p2), .val (.int p3), .val (.ref b4), .val (.int v24), .val (.int v26), .val (.int v29), .unset, .unset, .unset, .unset, .unset, .unset, .unset, .unset, .unset, .unset, .unset, .unset, .unset, .unset, .unset, .unset, .unset, .unset, .unset, .unset, .unset] [(.int zz)]))) ((((p2.toUInt32 >>> ((7 : Int32) &&& 31).toUInt32).toInt32) &&& (31 : Int32)) % (v24 + (1 : Int32))) ?_
  intro v31 hv31
  show Go p e below _ (T30.setTop (mkF m 183 _ [(.int v31)]))
  refine Go.step (fun t k => XS.istore X30.here hx rfl (hb hby at_183) rfl (l' := #[.val (.long q1), .second, .val (.int p2), .val (.int p3), .val (.ref b4), .val (.int v24), .val (.int v26), .val (.int v29), .val (.int v31), .unset, .unset, .unset, .unset, .unset, .unset, .unset, .unset, .unset, .unset, .unset, .unset, .unset, .unset, .unset, .unset, .unset, .unset, .unset, .unset]) rfl k) ?_
  show Go p e below _ (T30.setTop (mkF m 185 _ []))
  refine gI (q := 186) X30 hx (hb hby at_185) rfl rfl ?_
  refine Go.step (fun t k => XS.bipush X30.here hx rfl (hb hby at_186)  k) ?_
  show Go p e below _ (T30.setTop (mkF m 188 _ [(.int (12 : Int32)), (.int p2)]))
  refine Go.step (fun t k => XS.iushr X30.here hx rfl (hb hby at_188) rfl k) ?_
  show Go p e below _ (T30.setTop (mkF m 189 _ [(.int ((p2.toUInt32 >>> ((12 : Int32) &&& 31).toUInt32).toInt32))]))
  refine gC (q := 190) (v := 3) X30 hx (hb hby at_189) rfl rfl ?_
  refine Go.step (fun t k => XS.iand X30.here hx rfl (hb hby at_190) rfl k) ?_
  show Go p e below _ (T30.setTop (mkF m 191 _ [(.int (((p2.toUInt32 >>> ((12 : Int32) &&& 31).toUInt32).toInt32) &&& (3 : Int32)))]))
  refine nameIt (fun zz : Int32 => Go p e below _ (T30.setTop (mkF m 191 #[.val (.long q1), .second, .val (.int p2), .val (.int p3), .val (.ref b4), .val (.int v24), .val (.int v26), .val (.int v29), .val (.int v31), .unset, .unset, .unset, .unset, .unset, .unset, .unset, .unset, .unset, .unset, .unset, .unset, .unset, .unset, .unset, .unset, .unset, .unset, .unset, .unset] [(.int zz)]))) (((p2.toUInt32 >>> ((12 : Int32) &&& 31).toUInt32).toInt32) &&& (3 : Int32)) ?_
  intro v32 hv32
  show Go p e below _ (T30.setTop (mkF m 191 _ [(.int v32)]))
  refine Go.step (fun t k => XS.istore X30.here hx rfl (hb hby at_191) rfl (l' := #[.val (.long q1), .second, .val (.int p2), .val (.int p3), .val (.ref b4), .val (.int v24), .val (.int v26), .val (.int v29), .val (.int v31), .val (.int v32), .unset, .unset, .unset, .unset, .unset, .unset, .unset, .unset, .unset, .unset, .unset, .unset, .unset, .unset, .unset, .unset, .unset, .unset, .unset]) rfl k) ?_
  show Go p e below _ (T30.setTop (mkF m 193 _ []))
  refine gI (q := 194) X30 hx (hb hby at_193) rfl rfl ?_
  refine Go.step (fun t k => XS.bipush X30.here hx rfl (hb hby at_194)  k) ?_
  show Go p e below _ (T30.setTop (mkF m 196 _ [(.int (14 : Int32)), (.int p2)]))
  refine Go.step (fun t k => XS.iushr X30.here hx rfl (hb hby at_196) rfl k) ?_
  show Go p e below _ (T30.setTop (mkF m 197 _ [(.int ((p2.toUInt32 >>> ((14 : Int32) &&& 31).toUInt32).toInt32))]))
  refine gC (q := 198) (v := 1) X30 hx (hb hby at_197) rfl rfl ?_
  refine Go.step (fun t k => XS.iand X30.here hx rfl (hb hby at_198) rfl k) ?_
  show Go p e below _ (T30.setTop (mkF m 199 _ [(.int (((p2.toUInt32 >>> ((14 : Int32) &&& 31).toUInt32).toInt32) &&& (1 : Int32)))]))
  obtain ⟨v34, hv34⟩ : ∃ z : Int32, z = (if (((p2.toUInt32 >>> ((14 : Int32) &&& 31).toUInt32).toInt32) &&& (1 : Int32)) = (0 : Int32) then (0 : Int32) else (1 : Int32)) := ⟨_, rfl⟩
  have J199 : Go p e below (AtF p l e room_1 s m #[(.long q1), (.int p2), (.int p3)] below meth c n0 1 19 h23 (mkF m 207 #[.val (.long q1), .second, .val (.int p2), .val (.int p3), .val (.ref b4), .val (.int v24), .val (.int v26), .val (.int v29), .val (.int v31), .val (.int v32), .unset, .unset, .unset, .unset, .unset, .unset, .unset, .unset, .unset, .unset, .unset, .unset, .unset, .unset, .unset, .unset, .unset, .unset, .unset] [(.int v34)])) (T30.setTop (mkF m 199 #[.val (.long q1), .second, .val (.int p2), .val (.int p3), .val (.ref b4), .val (.int v24), .val (.int v26), .val (.int v29), .val (.int v31), .val (.int v32), .unset, .unset, .unset, .unset, .unset, .unset, .unset, .unset, .unset, .unset, .unset, .unset, .unset, .unset, .unset, .unset, .unset, .unset, .unset] [(.int (((p2.toUInt32 >>> ((14 : Int32) &&& 31).toUInt32).toInt32) &&& (1 : Int32)))])) := by
   by_cases hc33 : (((p2.toUInt32 >>> ((14 : Int32) &&& 31).toUInt32).toInt32) &&& (1 : Int32)) = (0 : Int32)
   · refine Go.step (fun t k => XS.ifYes X30.here hx rfl (pc0 := 199) (pc' := 206) rfl (hb hby at_199) rfl ((if0 _ _).trans (teq hc33).1) (by decide) (by decide) k) ?_
     show Go p e below _ (T30.setTop (mkF m 206 _ []))
     refine gC (q := 207) (v := 0) X30 hx (hb hby at_206) rfl rfl ?_
     show Go p e below _ (T30.setTop (mkF m 207 _ [(.int (0 : Int32))]))
     exact Go.here ⟨_, _, by simp only [hv34, if_pos hc33], X30, N30, e30⟩
   · refine Go.step (fun t k => XS.ifNo X30.here hx rfl (hb hby at_199) rfl ((if0 _ _).trans (feq hc33).1) k) ?_
     show Go p e below _ (T30.setTop (mkF m 202 _ []))
     refine gC (q := 203) (v := 1) X30 hx (hb hby at_202) rfl rfl ?_
     refine Go.step (fun t k => XS.goto X30.here hx rfl (pc0 := 203) (pc' := 207) rfl (hb hby at_203) (by decide) (by decide) k) ?_
     show Go p e below _ (T30.setTop (mkF m 207 _ [(.int (1 : Int32))]))
     exact Go.here ⟨_, _, by simp only [hv34, if_neg hc33], X30, N30, e30⟩
  obtain ⟨_, st35, T35, Lj35, rfl, X35, N35, e35⟩ := J199
  refine Go.trans st35 ?_
  show Go p e below _ (T35.setTop (mkF m 207 _ [(.int v34)]))
  refine Go.step (fun t k => XS.istore X35.here hx rfl (hb hby at_207) rfl (l' := #[.val (.long q1), .second, .val (.int p2), .val (.int p3), .val (.ref b4), .val (.int v24), .val (.int v26), .val (.int v29), .val (.int v31), .val (.int v32), .val (.int v34), .unset, .unset, .unset, .unset, .unset, .unset, .unset, .unset, .unset, .unset, .unset, .unset, .unset, .unset, .unset, .unset, .unset, .unset]) rfl k) ?_
  show Go p e below _ (T35.setTop (mkF m 209 _ []))
  refine gI (q := 210) X35 hx (hb hby at_209) rfl rfl ?_
  refine Go.step (fun t k => XS.bipush X35.here hx rfl (hb hby at_210)  k) ?_
  show Go p e below _ (T35.setTop (mkF m 212 _ [(.int (15 : Int32)), (.int p2)]))
  refine Go.step (fun t k => XS.iushr X35.here hx rfl (hb hby at_212) rfl k) ?_
  show Go p e below _ (T35.setTop (mkF m 213 _ [(.int ((p2.toUInt32 >>> ((15 : Int32) &&& 31).toUInt32).toInt32))]))
  refine gC (q := 214) (v := 1) X35 hx (hb hby at_213) rfl rfl ?_
  refine Go.step (fun t k => XS.iand X35.here hx rfl (hb hby at_214) rfl k) ?_
  show Go p e below _ (T35.setTop (mkF m 215 _ [(.int (((p2.toUInt32 >>> ((15 : Int32) &&& 31).toUInt32).toInt32) &&& (1 : Int32)))]))
  refine nameIt (fun zz : Int32 => Go p e below _ (T35.setTop (mkF m 215 #[.val (.long q1), .second, .val (.int p2), .val (.int p3), .val (.ref b4), .val (.int v24), .val (.int v26), .val (.int v29), .val (.int v31), .val (.int v32), .val (.int v34), .unset, .unset, .unset, .unset, .unset, .unset, .unset, .unset, .unset, .unset, .unset, .unset, .unset, .unset, .unset, .unset, .unset, .unset] [(.int zz)]))) (((p2.toUInt32 >>> ((15 : Int32) &&& 31).toUInt32).toInt32) &&& (1 : Int32)) ?_
  intro v36 hv36
  show Go p e below _ (T35.setTop (mkF m 215 _ [(.int v36)]))
  refine Go.step (fun t k => XS.istore X35.here hx rfl (hb hby at_215) rfl (l' := #[.val (.long q1), .second, .val (.int p2), .val (.int p3), .val (.ref b4), .val (.int v24), .val (.int v26), .val (.int v29), .val (.int v31), .val (.int v32), .val (.int v34), .val (.int v36), .unset, .unset, .unset, .unset, .unset, .unset, .unset, .unset, .unset, .unset, .unset, .unset, .unset, .unset, .unset, .unset, .unset]) rfl k) ?_
  show Go p e below _ (T35.setTop (mkF m 217 _ []))
  refine gI (q := 218) X35 hx (hb hby at_217) rfl rfl ?_
  refine Go.step (fun t k => XS.i2b X35.here hx rfl (hb hby at_218) rfl k) ?_
  show Go p e below _ (T35.setTop (mkF m 219 _ [(.int (p3.toInt8.toInt32))]))
  refine nameIt (fun zz : Int32 => Go p e below _ (T35.setTop (mkF m 219 #[.val (.long q1), .second, .val (.int p2), .val (.int p3), .val (.ref b4), .val (.int v24), .val (.int v26), .val (.int v29), .val (.int v31), .val (.int v32), .val (.int v34), .val (.int v36), .unset, .unset, .unset, .unset, .unset, .unset, .unset, .unset, .unset, .unset, .unset, .unset, .unset, .unset, .unset, .unset, .unset] [(.int zz)]))) (p3.toInt8.toInt32) ?_
  intro v37 hv37
  show Go p e below _ (T35.setTop (mkF m 219 _ [(.int v37)]))
  refine Go.step (fun t k => XS.istore X35.here hx rfl (hb hby at_219) rfl (l' := #[.val (.long q1), .second, .val (.int p2), .val (.int p3), .val (.ref b4), .val (.int v24), .val (.int v26), .val (.int v29), .val (.int v31), .val (.int v32), .val (.int v34), .val (.int v36), .val (.int v37), .unset, .unset, .unset, .unset, .unset, .unset, .unset, .unset, .unset, .unset, .unset, .unset, .unset, .unset, .unset, .unset]) rfl k) ?_
  show Go p e below _ (T35.setTop (mkF m 221 _ []))
  refine gI (q := 222) X35 hx (hb hby at_221) rfl rfl ?_
  refine Go.step (fun t k => XS.bipush X35.here hx rfl (hb hby at_222)  k) ?_
  show Go p e below _ (T35.setTop (mkF m 224 _ [(.int (8 : Int32)), (.int p3)]))
  refine Go.step (fun t k => XS.ishr X35.here hx rfl (hb hby at_224) rfl k) ?_
  show Go p e below _ (T35.setTop (mkF m 225 _ [(.int (p3 >>> ((8 : Int32) &&& 31)))]))
  refine Go.step (fun t k => XS.i2b X35.here hx rfl (hb hby at_225) rfl k) ?_
  show Go p e below _ (T35.setTop (mkF m 226 _ [(.int ((p3 >>> ((8 : Int32) &&& 31)).toInt8.toInt32))]))
  refine nameIt (fun zz : Int32 => Go p e below _ (T35.setTop (mkF m 226 #[.val (.long q1), .second, .val (.int p2), .val (.int p3), .val (.ref b4), .val (.int v24), .val (.int v26), .val (.int v29), .val (.int v31), .val (.int v32), .val (.int v34), .val (.int v36), .val (.int v37), .unset, .unset, .unset, .unset, .unset, .unset, .unset, .unset, .unset, .unset, .unset, .unset, .unset, .unset, .unset, .unset] [(.int zz)]))) ((p3 >>> ((8 : Int32) &&& 31)).toInt8.toInt32) ?_
  intro v38 hv38
  show Go p e below _ (T35.setTop (mkF m 226 _ [(.int v38)]))
  refine Go.step (fun t k => XS.istore X35.here hx rfl (hb hby at_226) rfl (l' := #[.val (.long q1), .second, .val (.int p2), .val (.int p3), .val (.ref b4), .val (.int v24), .val (.int v26), .val (.int v29), .val (.int v31), .val (.int v32), .val (.int v34), .val (.int v36), .val (.int v37), .val (.int v38), .unset, .unset, .unset, .unset, .unset, .unset, .unset, .unset, .unset, .unset, .unset, .unset, .unset, .unset, .unset]) rfl k) ?_
  show Go p e below _ (T35.setTop (mkF m 228 _ []))
  refine gI (q := 229) X35 hx (hb hby at_228) rfl rfl ?_
  refine Go.step (fun t k => XS.bipush X35.here hx rfl (hb hby at_229)  k) ?_
  show Go p e below _ (T35.setTop (mkF m 231 _ [(.int (16 : Int32)), (.int p3)]))
  refine Go.step (fun t k => XS.ishr X35.here hx rfl (hb hby at_231) rfl k) ?_
  show Go p e below _ (T35.setTop (mkF m 232 _ [(.int (p3 >>> ((16 : Int32) &&& 31)))]))
  refine Go.step (fun t k => XS.i2b X35.here hx rfl (hb hby at_232) rfl k) ?_
  show Go p e below _ (T35.setTop (mkF m 233 _ [(.int ((p3 >>> ((16 : Int32) &&& 31)).toInt8.toInt32))]))
  refine nameIt (fun zz : Int32 => Go p e below _ (T35.setTop (mkF m 233 #[.val (.long q1), .second, .val (.int p2), .val (.int p3), .val (.ref b4), .val (.int v24), .val (.int v26), .val (.int v29), .val (.int v31), .val (.int v32), .val (.int v34), .val (.int v36), .val (.int v37), .val (.int v38), .unset, .unset, .unset, .unset, .unset, .unset, .unset, .unset, .unset, .unset, .unset, .unset, .unset, .unset, .unset] [(.int zz)]))) ((p3 >>> ((16 : Int32) &&& 31)).toInt8.toInt32) ?_
  intro v39 hv39
  show Go p e below _ (T35.setTop (mkF m 233 _ [(.int v39)]))
  refine Go.step (fun t k => XS.istore X35.here hx rfl (hb hby at_233) rfl (l' := #[.val (.long q1), .second, .val (.int p2), .val (.int p3), .val (.ref b4), .val (.int v24), .val (.int v26), .val (.int v29), .val (.int v31), .val (.int v32), .val (.int v34), .val (.int v36), .val (.int v37), .val (.int v38), .val (.int v39), .unset, .unset, .unset, .unset, .unset, .unset, .unset, .unset, .unset, .unset, .unset, .unset, .unset, .unset]) rfl k) ?_
  show Go p e below _ (T35.setTop (mkF m 235 _ []))
  refine Go.step (fun t k => XS.lloadN X35.here hx rfl (hb hby at_235) rfl k) ?_
  show Go p e below _ (T35.setTop (mkF m 236 _ [(.long q1)]))
  refine Go.step (X35.ldc2Long hx hown (mvT hZ (hw _ (List.mem_of_getElem? (i := 19) rfl))) (g := (mkF m 236 #[.val (.long q1), .second, .val (.int p2), .val (.int p3), .val (.ref b4), .val (.int v24), .val (.int v26), .val (.int v29), .val (.int v31), .val (.int v32), .val (.int v34), .val (.int v36), .val (.int v37), .val (.int v38), .val (.int v39), .unset, .unset, .unset, .unset, .unset, .unset, .unset, .unset, .unset, .unset, .unset, .unset, .unset, .unset] [(.long q1)])) rfl (hb hby at_236)) ?_
  show Go p e below _ (T35.setTop (mkF m 239 _ [(.long (9223372036854775807 : Int64)), (.long q1)]))
  refine Go.step (fun t k => XS.land X35.here hx rfl (hb hby at_239) rfl k) ?_
  show Go p e below _ (T35.setTop (mkF m 240 _ [(.long (q1 &&& (9223372036854775807 : Int64)))]))
  refine nameIt (fun zz : Int64 => Go p e below _ (T35.setTop (mkF m 240 #[.val (.long q1), .second, .val (.int p2), .val (.int p3), .val (.ref b4), .val (.int v24), .val (.int v26), .val (.int v29), .val (.int v31), .val (.int v32), .val (.int v34), .val (.int v36), .val (.int v37), .val (.int v38), .val (.int v39), .unset, .unset, .unset, .unset, .unset, .unset, .unset, .unset, .unset, .unset, .unset, .unset, .unset, .unset] [(.long zz)]))) (q1 &&& (9223372036854775807 : Int64)) ?_
  intro v40 hv40
  show Go p e below _ (T35.setTop (mkF m 240 _ [(.long v40)]))
  refine Go.step (fun t k => XS.lstore X35.here hx rfl (hb hby at_240) rfl (l' := #[.val (.long q1), .second, .val (.int p2), .val (.int p3), .val (.ref b4), .val (.int v24), .val (.int v26), .val (.int v29), .val (.int v31), .val (.int v32), .val (.int v34), .val (.int v36), .val (.int v37), .val (.int v38), .val (.int v39), .val (.long v40), .second, .unset, .unset, .unset, .unset, .unset, .unset, .unset, .unset, .unset, .unset, .unset, .unset]) rfl k) ?_
  show Go p e below _ (T35.setTop (mkF m 242 _ []))
  refine gJ (q := 244) X35 hx (hb hby at_242) rfl rfl ?_
  refine Go.step (fun t k => XS.bipush X35.here hx rfl (hb hby at_244)  k) ?_
  show Go p e below _ (T35.setTop (mkF m 246 _ [(.int (19 : Int32)), (.int v24)]))
  obtain ⟨v42, hv42⟩ : ∃ z : Int64, z = (if v24 = (19 : Int32) then v40 else (v40 % (powF v24.toNatClampNeg))) := ⟨_, rfl⟩
  have J246 : Go p e below (AtF p l e room_1 s m #[(.long q1), (.int p2), (.int p3)] below meth c n0 1 19 h23 (mkF m 262 #[.val (.long q1), .second, .val (.int p2), .val (.int p3), .val (.ref b4), .val (.int v24), .val (.int v26), .val (.int v29), .val (.int v31), .val (.int v32), .val (.int v34), .val (.int v36), .val (.int v37), .val (.int v38), .val (.int v39), .val (.long v40), .second, .unset, .unset, .unset, .unset, .unset, .unset, .unset, .unset, .unset, .unset, .unset, .unset] [(.long v42)])) (T35.setTop (mkF m 246 #[.val (.long q1), .second, .val (.int p2), .val (.int p3), .val (.ref b4), .val (.int v24), .val (.int v26), .val (.int v29), .val (.int v31), .val (.int v32), .val (.int v34), .val (.int v36), .val (.int v37), .val (.int v38), .val (.int v39), .val (.long v40), .second, .unset, .unset, .unset, .unset, .unset, .unset, .unset, .unset, .unset, .unset, .unset, .unset] [(.int (19 : Int32)), (.int v24)])) := by
   by_cases hc41 : v24 = (19 : Int32)
   · refine Go.step (fun t k => XS.icmpNo X35.here hx rfl (hb hby at_246) rfl (teq hc41).2 k) ?_
     show Go p e below _ (T35.setTop (mkF m 249 _ []))
     refine Go.step (fun t k => XS.lload X35.here hx rfl (hb hby at_249) rfl k) ?_
     show Go p e below _ (T35.setTop (mkF m 251 _ [(.long v40)]))
     refine Go.step (fun t k => XS.goto X35.here hx rfl (pc0 := 251) (pc' := 262) rfl (hb hby at_251) (by decide) (by decide) k) ?_
     show Go p e below _ (T35.setTop (mkF m 262 _ [(.long v40)]))
     exact Go.here ⟨_, _, by simp only [hv42, if_pos hc41], X35, N35, e35⟩
   · refine Go.step (fun t k => XS.icmpYes X35.here hx rfl (pc0 := 246) (pc' := 254) rfl (hb hby at_246) rfl (feq hc41).2 (by decide) (by decide) k) ?_
     show Go p e below _ (T35.setTop (mkF m 254 _ []))
     refine Go.step (fun t k => XS.lload X35.here hx rfl (hb hby at_254) rfl k) ?_
     show Go p e below _ (T35.setTop (mkF m 256 _ [(.long v40)]))
     refine gB (q := 258) X35 hx (hb hby at_256) rfl rfl rfl ?_
     refine gJ (q := 260) X35 hx (hb hby at_258) rfl rfl ?_
     refine Go.step (ldJ X35 hx hZ e35 A_b4_23e (j := v24) ((nn_iff _).mpr (own_n hv24).1) (own_n19 (own_n hv24) hc41) (g := (mkF m 260 _ [(.int v24), (.ref b4), (.long v40)])) rfl rfl (hb hby at_260)) ?_
     show Go p e below _ (T35.setTop (mkF m 261 _ [(.long (powF v24.toNatClampNeg)), (.long v40)]))
     refine Go.step (fun t (k : Steps p.tables e below (T35.setTop (mkF m 262 #[.val (.long q1), .second, .val (.int p2), .val (.int p3), .val (.ref b4), .val (.int v24), .val (.int v26), .val (.int v29), .val (.int v31), .val (.int v32), .val (.int v34), .val (.int v36), .val (.int v37), .val (.int v38), .val (.int v39), .val (.long v40), .second, .unset, .unset, .unset, .unset, .unset, .unset, .unset, .unset, .unset, .unset, .unset, .unset] [(.long (v40 % (powF v24.toNatClampNeg)))])) t) => XS.lrem X35.here hx rfl (hb hby at_261) rfl (powF_ne (own_n19 (own_n hv24) hc41)) (by rw [lrem_mod]; exact k)) ?_
     show Go p e below _ (T35.setTop (mkF m 262 _ [(.long (v40 % (powF v24.toNatClampNeg)))]))
     exact Go.here ⟨_, _, by simp only [hv42, if_neg hc41], X35, N35, e35⟩
  obtain ⟨_, st43, T43, Lj43, rfl, X43, N43, e43⟩ := J246
  refine Go.trans st43 ?_
  show Go p e below _ (T43.setTop (mkF m 262 _ [(.long v42)]))
  refine Go.step (fun t k => XS.lstore X43.here hx rfl (hb hby at_262) rfl (l' := #[.val (.long q1), .second, .val (.int p2), .val (.int p3), .val (.ref b4), .val (.int v24), .val (.int v26), .val (.int v29), .val (.int v31), .val (.int v32), .val (.int v34), .val (.int v36), .val (.int v37), .val (.int v38), .val (.int v39), .val (.long v40), .second, .val (.long v42), .second, .unset, .unset, .unset, .unset, .unset, .unset, .unset, .unset, .unset, .unset]) rfl k) ?_
  show Go p e below _ (T43.setTop (mkF m 264 _ []))
  refine gJ (q := 266) X43 hx (hb hby at_264) rfl rfl ?_
  obtain ⟨v45, hv45⟩ : ∃ z : Int32, z = (if v26 = (0 : Int32) then v32 else (v32 + (1 : Int32))) := ⟨_, rfl⟩
  have J266 : Go p e below (AtF p l e room_1 s m #[(.long q1), (.int p2), (.int p3)] below meth c n0 1 19 h23 (mkF m 278 #[.val (.long q1), .second, .val (.int p2), .val (.int p3), .val (.ref b4), .val (.int v24), .val (.int v26), .val (.int v29), .val (.int v31), .val (.int v32), .val (.int v34), .val (.int v36), .val (.int v37), .val (.int v38), .val (.int v39), .val (.long v40), .second, .val (.long v42), .second, .unset, .unset, .unset, .unset, .unset, .unset, .unset, .unset, .unset, .unset] [(.int v45)])) (T43.setTop (mkF m 266 #[.val (.long q1), .second, .val (.int p2), .val (.int p3), .val (.ref b4), .val (.int v24), .val (.int v26), .val (.int v29), .val (.int v31), .val (.int v32), .val (.int v34), .val (.int v36), .val (.int v37), .val (.int v38), .val (.int v39), .val (.long v40), .second, .val (.long v42), .second, .unset, .unset, .unset, .unset, .unset, .unset, .unset, .unset, .unset, .unset] [(.int v26)])) := by
   by_cases hc44 : v26 = (0 : Int32)
   · refine Go.step (fun t k => XS.ifYes X43.here hx rfl (pc0 := 266) (pc' := 276) rfl (hb hby at_266) rfl ((if0 _ _).trans (teq hc44).1) (by decide) (by decide) k) ?_
     show Go p e below _ (T43.setTop (mkF m 276 _ []))
     refine gJ (q := 278) X43 hx (hb hby at_276) rfl rfl ?_
     show Go p e below _ (T43.setTop (mkF m 278 _ [(.int v32)]))
     exact Go.here ⟨_, _, by simp only [hv45, if_pos hc44], X43, N43, e43⟩
   · refine Go.step (fun t k => XS.ifNo X43.here hx rfl (hb hby at_266) rfl ((if0 _ _).trans (feq hc44).1) k) ?_
     show Go p e below _ (T43.setTop (mkF m 269 _ []))
     refine gJ (q := 271) X43 hx (hb hby at_269) rfl rfl ?_
     refine gC (q := 272) (v := 1) X43 hx (hb hby at_271) rfl rfl ?_
     refine Go.step (fun t k => XS.iadd X43.here hx rfl (hb hby at_272) rfl k) ?_
     show Go p e below _ (T43.setTop (mkF m 273 _ [(.int (v32 + (1 : Int32)))]))
     refine Go.step (fun t k => XS.goto X43.here hx rfl (pc0 := 273) (pc' := 278) rfl (hb hby at_273) (by decide) (by decide) k) ?_
     show Go p e below _ (T43.setTop (mkF m 278 _ [(.int (v32 + (1 : Int32)))]))
     exact Go.here ⟨_, _, by simp only [hv45, if_neg hc44], X43, N43, e43⟩
  obtain ⟨_, st46, T46, Lj46, rfl, X46, N46, e46⟩ := J266
  refine Go.trans st46 ?_
  show Go p e below _ (T46.setTop (mkF m 278 _ [(.int v45)]))
  refine Go.step (fun t k => XS.istore X46.here hx rfl (hb hby at_278) rfl (l' := #[.val (.long q1), .second, .val (.int p2), .val (.int p3), .val (.ref b4), .val (.int v24), .val (.int v26), .val (.int v29), .val (.int v31), .val (.int v32), .val (.int v34), .val (.int v36), .val (.int v37), .val (.int v38), .val (.int v39), .val (.long v40), .second, .val (.long v42), .second, .val (.int v45), .unset, .unset, .unset, .unset, .unset, .unset, .unset, .unset, .unset]) rfl k) ?_
  show Go p e below _ (T46.setTop (mkF m 280 _ []))
  refine gJ (q := 282) X46 hx (hb hby at_280) rfl rfl ?_
  refine gJ (q := 284) X46 hx (hb hby at_282) rfl rfl ?_
  refine Go.step (fun t k => XS.iadd X46.here hx rfl (hb hby at_284) rfl k) ?_
  show Go p e below _ (T46.setTop (mkF m 285 _ [(.int (v45 + v24))]))
  refine gJ (q := 287) X46 hx (hb hby at_285) rfl rfl ?_
  obtain ⟨v48, hv48⟩ : ∃ z : Int32, z = (if v29 = (0 : Int32) then (0 : Int32) else (1 : Int32)) := ⟨_, rfl⟩
  have J287 : Go p e below (AtF p l e room_1 s m #[(.long q1), (.int p2), (.int p3)] below meth c n0 1 19 h23 (mkF m 295 #[.val (.long q1), .second, .val (.int p2), .val (.int p3), .val (.ref b4), .val (.int v24), .val (.int v26), .val (.int v29), .val (.int v31), .val (.int v32), .val (.int v34), .val (.int v36), .val (.int v37), .val (.int v38), .val (.int v39), .val (.long v40), .second, .val (.long v42), .second, .val (.int v45), .unset, .unset, .unset, .unset, .unset, .unset, .unset, .unset, .unset] [(.int v48), (.int (v45 + v24))])) (T46.setTop (mkF m 287 #[.val (.long q1), .second, .val (.int p2), .val (.int p3), .val (.ref b4), .val (.int v24), .val (.int v26), .val (.int v29), .val (.int v31), .val (.int v32), .val (.int v34), .val (.int v36), .val (.int v37), .val (.int v38), .val (.int v39), .val (.long v40), .second, .val (.long v42), .second, .val (.int v45), .unset, .unset, .unset, .unset, .unset, .unset, .unset, .unset, .unset] [(.int v29), (.int (v45 + v24))])) := by
   by_cases hc47 : v29 = (0 : Int32)
   · refine Go.step (fun t k => XS.ifYes X46.here hx rfl (pc0 := 287) (pc' := 294) rfl (hb hby at_287) rfl ((if0 _ _).trans (teq hc47).1) (by decide) (by decide) k) ?_
     show Go p e below _ (T46.setTop (mkF m 294 _ [(.int (v45 + v24))]))
     refine gC (q := 295) (v := 0) X46 hx (hb hby at_294) rfl rfl ?_
     show Go p e below _ (T46.setTop (mkF m 295 _ [(.int (0 : Int32)), (.int (v45 + v24))]))
     exact Go.here ⟨_, _, by simp only [hv48, if_pos hc47], X46, N46, e46⟩
   · refine Go.step (fun t k => XS.ifNo X46.here hx rfl (hb hby at_287) rfl ((if0 _ _).trans (feq hc47).1) k) ?_
     show Go p e below _ (T46.setTop (mkF m 290 _ [(.int (v45 + v24))]))
     refine gC (q := 291) (v := 1) X46 hx (hb hby at_290) rfl rfl ?_
     refine Go.step (fun t k => XS.goto X46.here hx rfl (pc0 := 291) (pc' := 295) rfl (hb hby at_291) (by decide) (by decide) k) ?_
     show Go p e below _ (T46.setTop (mkF m 295 _ [(.int (1 : Int32)), (.int (v45 + v24))]))
     exact Go.here ⟨_, _, by simp only [hv48, if_neg hc47], X46, N46, e46⟩
  obtain ⟨_, st49, T49, Lj49, rfl, X49, N49, e49⟩ := J287
  refine Go.trans st49 ?_
  show Go p e below _ (T49.setTop (mkF m 295 _ [(.int v48), (.int (v45 + v24))]))
  refine Go.step (fun t k => XS.iadd X49.here hx rfl (hb hby at_295) rfl k) ?_
  show Go p e below _ (T49.setTop (mkF m 296 _ [(.int ((v45 + v24) + v48))]))
  refine nameIt (fun zz : Int32 => Go p e below _ (T49.setTop (mkF m 296 #[.val (.long q1), .second, .val (.int p2), .val (.int p3), .val (.ref b4), .val (.int v24), .val (.int v26), .val (.int v29), .val (.int v31), .val (.int v32), .val (.int v34), .val (.int v36), .val (.int v37), .val (.int v38), .val (.int v39), .val (.long v40), .second, .val (.long v42), .second, .val (.int v45), .unset, .unset, .unset, .unset, .unset, .unset, .unset, .unset, .unset] [(.int zz)]))) ((v45 + v24) + v48) ?_
  intro v50 hv50
  show Go p e below _ (T49.setTop (mkF m 296 _ [(.int v50)]))
  refine Go.step (fun t k => XS.istore X49.here hx rfl (hb hby at_296) rfl (l' := #[.val (.long q1), .second, .val (.int p2), .val (.int p3), .val (.ref b4), .val (.int v24), .val (.int v26), .val (.int v29), .val (.int v31), .val (.int v32), .val (.int v34), .val (.int v36), .val (.int v37), .val (.int v38), .val (.int v39), .val (.long v40), .second, .val (.long v42), .second, .val (.int v45), .val (.int v50), .unset, .unset, .unset, .unset, .unset, .unset, .unset, .unset]) rfl k) ?_
  show Go p e below _ (T49.setTop (mkF m 298 _ []))
  refine gJ (q := 300) X49 hx (hb hby at_298) rfl rfl ?_
  refine Go.step (fun t k => XS.bipush X49.here hx rfl (hb hby at_300)  k) ?_
  show Go p e below _ (T49.setTop (mkF m 302 _ [(.int (48 : Int32)), (.int v37)]))
  obtain ⟨v65, hv65⟩ : ∃ z : Int32, z = (if v37 < (48 : Int32) then (if v37 = (46 : Int32) then (if v29 = (0 : Int32) then (1 : Int32) else (if v37 = (45 : Int32) then (if v50 = v32 then (1 : Int32) else (0 : Int32)) else (0 : Int32))) else (if v37 = (45 : Int32) then (if v50 = v32 then (1 : Int32) else (0 : Int32)) else (0 : Int32))) else (if (57 : Int32) < v37 then (if v37 = (46 : Int32) then (if v29 = (0 : Int32) then (1 : Int32) else (if v37 = (45 : Int32) then (if v50 = v32 then (1 : Int32) else (0 : Int32)) else (0 : Int32))) else (if v37 = (45 : Int32) then (if v50 = v32 then (1 : Int32) else (0 : Int32)) else (0 : Int32))) else (1 : Int32))) := ⟨_, rfl⟩
  have J302 : Go p e below (AtF p l e room_1 s m #[(.long q1), (.int p2), (.int p3)] below meth c n0 1 19 h23 (mkF m 343 #[.val (.long q1), .second, .val (.int p2), .val (.int p3), .val (.ref b4), .val (.int v24), .val (.int v26), .val (.int v29), .val (.int v31), .val (.int v32), .val (.int v34), .val (.int v36), .val (.int v37), .val (.int v38), .val (.int v39), .val (.long v40), .second, .val (.long v42), .second, .val (.int v45), .val (.int v50), .unset, .unset, .unset, .unset, .unset, .unset, .unset, .unset] [(.int v65)])) (T49.setTop (mkF m 302 #[.val (.long q1), .second, .val (.int p2), .val (.int p3), .val (.ref b4), .val (.int v24), .val (.int v26), .val (.int v29), .val (.int v31), .val (.int v32), .val (.int v34), .val (.int v36), .val (.int v37), .val (.int v38), .val (.int v39), .val (.long v40), .second, .val (.long v42), .second, .val (.int v45), .val (.int v50), .unset, .unset, .unset, .unset, .unset, .unset, .unset, .unset] [(.int (48 : Int32)), (.int v37)])) := by
   by_cases hc51 : v37 < (48 : Int32)
   · refine Go.step (fun t k => XS.icmpYes X49.here hx rfl (pc0 := 302) (pc' := 312) rfl (hb hby at_302) rfl (tlt hc51).1 (by decide) (by decide) k) ?_
     show Go p e below _ (T49.setTop (mkF m 312 _ []))
     refine gJ (q := 314) X49 hx (hb hby at_312) rfl rfl ?_
     refine Go.step (fun t k => XS.bipush X49.here hx rfl (hb hby at_314)  k) ?_
     show Go p e below _ (T49.setTop (mkF m 316 _ [(.int (46 : Int32)), (.int v37)]))
     by_cases hc52 : v37 = (46 : Int32)
     · refine Go.step (fun t k => XS.icmpNo X49.here hx rfl (hb hby at_316) rfl (teq hc52).2 k) ?_
       show Go p e below _ (T49.setTop (mkF m 319 _ []))
       refine gJ (q := 321) X49 hx (hb hby at_319) rfl rfl ?_
       by_cases hc53 : v29 = (0 : Int32)
       · refine Go.step (fun t k => XS.ifYes X49.here hx rfl (pc0 := 321) (pc' := 338) rfl (hb hby at_321) rfl ((if0 _ _).trans (teq hc53).1) (by decide) (by decide) k) ?_
         show Go p e below _ (T49.setTop (mkF m 338 _ []))
         refine gC (q := 339) (v := 1) X49 hx (hb hby at_338) rfl rfl ?_
         refine Go.step (fun t k => XS.goto X49.here hx rfl (pc0 := 339) (pc' := 343) rfl (hb hby at_339) (by decide) (by decide) k) ?_
         show Go p e below _ (T49.setTop (mkF m 343 _ [(.int (1 : Int32))]))
         exact Go.here ⟨_, _, by simp only [hv65, if_pos hc51, if_pos hc52, if_pos hc53], X49, N49, e49⟩
       · refine Go.step (fun t k => XS.ifNo X49.here hx rfl (hb hby at_321) rfl ((if0 _ _).trans (feq hc53).1) k) ?_
         show Go p e below _ (T49.setTop (mkF m 324 _ []))
         refine gJ (q := 326) X49 hx (hb hby at_324) rfl rfl ?_
         refine Go.step (fun t k => XS.bipush X49.here hx rfl (hb hby at_326)  k) ?_
         show Go p e below _ (T49.setTop (mkF m 328 _ [(.int (45 : Int32)), (.int v37)]))
         by_cases hc54 : v37 = (45 : Int32)
         · refine Go.step (fun t k => XS.icmpNo X49.here hx rfl (hb hby at_328) rfl (teq hc54).2 k) ?_
           show Go p e below _ (T49.setTop (mkF m 331 _ []))
           refine gJ (q := 333) X49 hx (hb hby at_331) rfl rfl ?_
           refine gJ (q := 335) X49 hx (hb hby at_333) rfl rfl ?_
           by_cases hc55 : v50 = v32
           · refine Go.step (fun t k => XS.icmpNo X49.here hx rfl (hb hby at_335) rfl (teq hc55).2 k) ?_
             show Go p e below _ (T49.setTop (mkF m 338 _ []))
             refine gC (q := 339) (v := 1) X49 hx (hb hby at_338) rfl rfl ?_
             refine Go.step (fun t k => XS.goto X49.here hx rfl (pc0 := 339) (pc' := 343) rfl (hb hby at_339) (by decide) (by decide) k) ?_
             show Go p e below _ (T49.setTop (mkF m 343 _ [(.int (1 : Int32))]))
             exact Go.here ⟨_, _, by simp only [hv65, if_pos hc51, if_pos hc52, if_neg hc53, if_pos hc54, if_pos hc55], X49, N49, e49⟩
           · refine Go.step (fun t k => XS.icmpYes X49.here hx rfl (pc0 := 335) (pc' := 342) rfl (hb hby at_335) rfl (feq hc55).2 (by decide) (by decide) k) ?_
             show Go p e below _ (T49.setTop (mkF m 342 _ []))
             refine gC (q := 343) (v := 0) X49 hx (hb hby at_342) rfl rfl ?_
             show Go p e below _ (T49.setTop (mkF m 343 _ [(.int (0 : Int32))]))
             exact Go.here ⟨_, _, by simp only [hv65, if_pos hc51, if_pos hc52, if_neg hc53, if_pos hc54, if_neg hc55], X49, N49, e49⟩
         · refine Go.step (fun t k => XS.icmpYes X49.here hx rfl (pc0 := 328) (pc' := 342) rfl (hb hby at_328) rfl (feq hc54).2 (by decide) (by decide) k) ?_
           show Go p e below _ (T49.setTop (mkF m 342 _ []))
           refine gC (q := 343) (v := 0) X49 hx (hb hby at_342) rfl rfl ?_
           show Go p e below _ (T49.setTop (mkF m 343 _ [(.int (0 : Int32))]))
           exact Go.here ⟨_, _, by simp only [hv65, if_pos hc51, if_pos hc52, if_neg hc53, if_neg hc54], X49, N49, e49⟩
     · refine Go.step (fun t k => XS.icmpYes X49.here hx rfl (pc0 := 316) (pc' := 324) rfl (hb hby at_316) rfl (feq hc52).2 (by decide) (by decide) k) ?_
       show Go p e below _ (T49.setTop (mkF m 324 _ []))
       refine gJ (q := 326) X49 hx (hb hby at_324) rfl rfl ?_
       refine Go.step (fun t k => XS.bipush X49.here hx rfl (hb hby at_326)  k) ?_
       show Go p e below _ (T49.setTop (mkF m 328 _ [(.int (45 : Int32)), (.int v37)]))
       by_cases hc56 : v37 = (45 : Int32)
       · refine Go.step (fun t k => XS.icmpNo X49.here hx rfl (hb hby at_328) rfl (teq hc56).2 k) ?_
         show Go p e below _ (T49.setTop (mkF m 331 _ []))
         refine gJ (q := 333) X49 hx (hb hby at_331) rfl rfl ?_
         refine gJ (q := 335) X49 hx (hb hby at_333) rfl rfl ?_
         by_cases hc57 : v50 = v32
         · refine Go.step (fun t k => XS.icmpNo X49.here hx rfl (hb hby at_335) rfl (teq hc57).2 k) ?_
           show Go p e below _ (T49.setTop (mkF m 338 _ []))
           refine gC (q := 339) (v := 1) X49 hx (hb hby at_338) rfl rfl ?_
           refine Go.step (fun t k => XS.goto X49.here hx rfl (pc0 := 339) (pc' := 343) rfl (hb hby at_339) (by decide) (by decide) k) ?_
           show Go p e below _ (T49.setTop (mkF m 343 _ [(.int (1 : Int32))]))
           exact Go.here ⟨_, _, by simp only [hv65, if_pos hc51, if_neg hc52, if_pos hc56, if_pos hc57], X49, N49, e49⟩
         · refine Go.step (fun t k => XS.icmpYes X49.here hx rfl (pc0 := 335) (pc' := 342) rfl (hb hby at_335) rfl (feq hc57).2 (by decide) (by decide) k) ?_
           show Go p e below _ (T49.setTop (mkF m 342 _ []))
           refine gC (q := 343) (v := 0) X49 hx (hb hby at_342) rfl rfl ?_
           show Go p e below _ (T49.setTop (mkF m 343 _ [(.int (0 : Int32))]))
           exact Go.here ⟨_, _, by simp only [hv65, if_pos hc51, if_neg hc52, if_pos hc56, if_neg hc57], X49, N49, e49⟩
       · refine Go.step (fun t k => XS.icmpYes X49.here hx rfl (pc0 := 328) (pc' := 342) rfl (hb hby at_328) rfl (feq hc56).2 (by decide) (by decide) k) ?_
         show Go p e below _ (T49.setTop (mkF m 342 _ []))
         refine gC (q := 343) (v := 0) X49 hx (hb hby at_342) rfl rfl ?_
         show Go p e below _ (T49.setTop (mkF m 343 _ [(.int (0 : Int32))]))
         exact Go.here ⟨_, _, by simp only [hv65, if_pos hc51, if_neg hc52, if_neg hc56], X49, N49, e49⟩
   · refine Go.step (fun t k => XS.icmpNo X49.here hx rfl (hb hby at_302) rfl (flt hc51).1 k) ?_
     show Go p e below _ (T49.setTop (mkF m 305 _ []))
     refine gJ (q := 307) X49 hx (hb hby at_305) rfl rfl ?_
     refine Go.step (fun t k => XS.bipush X49.here hx rfl (hb hby at_307)  k) ?_
     show Go p e below _ (T49.setTop (mkF m 309 _ [(.int (57 : Int32)), (.int v37)]))
     by_cases hc58 : (57 : Int32) < v37
     · refine Go.step (fun t k => XS.icmpNo X49.here hx rfl (hb hby at_309) rfl (tlt hc58).2.2.2 k) ?_
       show Go p e below _ (T49.setTop (mkF m 312 _ []))
       refine gJ (q := 314) X49 hx (hb hby at_312) rfl rfl ?_
       refine Go.step (fun t k => XS.bipush X49.here hx rfl (hb hby at_314)  k) ?_
       show Go p e below _ (T49.setTop (mkF m 316 _ [(.int (46 : Int32)), (.int v37)]))
       by_cases hc59 : v37 = (46 : Int32)
       · refine Go.step (fun t k => XS.icmpNo X49.here hx rfl (hb hby at_316) rfl (teq hc59).2 k) ?_
         show Go p e below _ (T49.setTop (mkF m 319 _ []))
         refine gJ (q := 321) X49 hx (hb hby at_319) rfl rfl ?_
         by_cases hc60 : v29 = (0 : Int32)
         · refine Go.step (fun t k => XS.ifYes X49.here hx rfl (pc0 := 321) (pc' := 338) rfl (hb hby at_321) rfl ((if0 _ _).trans (teq hc60).1) (by decide) (by decide) k) ?_
           show Go p e below _ (T49.setTop (mkF m 338 _ []))
           refine gC (q := 339) (v := 1) X49 hx (hb hby at_338) rfl rfl ?_
           refine Go.step (fun t k => XS.goto X49.here hx rfl (pc0 := 339) (pc' := 343) rfl (hb hby at_339) (by decide) (by decide) k) ?_
           show Go p e below _ (T49.setTop (mkF m 343 _ [(.int (1 : Int32))]))
           exact Go.here ⟨_, _, by simp only [hv65, if_neg hc51, if_pos hc58, if_pos hc59, if_pos hc60], X49, N49, e49⟩
         · refine Go.step (fun t k => XS.ifNo X49.here hx rfl (hb hby at_321) rfl ((if0 _ _).trans (feq hc60).1) k) ?_
           show Go p e below _ (T49.setTop (mkF m 324 _ []))
           refine gJ (q := 326) X49 hx (hb hby at_324) rfl rfl ?_
           refine Go.step (fun t k => XS.bipush X49.here hx rfl (hb hby at_326)  k) ?_
           show Go p e below _ (T49.setTop (mkF m 328 _ [(.int (45 : Int32)), (.int v37)]))
           by_cases hc61 : v37 = (45 : Int32)
           · refine Go.step (fun t k => XS.icmpNo X49.here hx rfl (hb hby at_328) rfl (teq hc61).2 k) ?_
             show Go p e below _ (T49.setTop (mkF m 331 _ []))
             refine gJ (q := 333) X49 hx (hb hby at_331) rfl rfl ?_
             refine gJ (q := 335) X49 hx (hb hby at_333) rfl rfl ?_
             by_cases hc62 : v50 = v32
             · refine Go.step (fun t k => XS.icmpNo X49.here hx rfl (hb hby at_335) rfl (teq hc62).2 k) ?_
               show Go p e below _ (T49.setTop (mkF m 338 _ []))
               refine gC (q := 339) (v := 1) X49 hx (hb hby at_338) rfl rfl ?_
               refine Go.step (fun t k => XS.goto X49.here hx rfl (pc0 := 339) (pc' := 343) rfl (hb hby at_339) (by decide) (by decide) k) ?_
               show Go p e below _ (T49.setTop (mkF m 343 _ [(.int (1 : Int32))]))
               exact Go.here ⟨_, _, by simp only [hv65, if_neg hc51, if_pos hc58, if_pos hc59, if_neg hc60, if_pos hc61, if_pos hc62], X49, N49, e49⟩
             · refine Go.step (fun t k => XS.icmpYes X49.here hx rfl (pc0 := 335) (pc' := 342) rfl (hb hby at_335) rfl (feq hc62).2 (by decide) (by decide) k) ?_
               show Go p e below _ (T49.setTop (mkF m 342 _ []))
               refine gC (q := 343) (v := 0) X49 hx (hb hby at_342) rfl rfl ?_
               show Go p e below _ (T49.setTop (mkF m 343 _ [(.int (0 : Int32))]))
               exact Go.here ⟨_, _, by simp only [hv65, if_neg hc51, if_pos hc58, if_pos hc59, if_neg hc60, if_pos hc61, if_neg hc62], X49, N49, e49⟩
           · refine Go.step (fun t k => XS.icmpYes X49.here hx rfl (pc0 := 328) (pc' := 342) rfl (hb hby at_328) rfl (feq hc61).2 (by decide) (by decide) k) ?_
             show Go p e below _ (T49.setTop (mkF m 342 _ []))
             refine gC (q := 343) (v := 0) X49 hx (hb hby at_342) rfl rfl ?_
             show Go p e below _ (T49.setTop (mkF m 343 _ [(.int (0 : Int32))]))
             exact Go.here ⟨_, _, by simp only [hv65, if_neg hc51, if_pos hc58, if_pos hc59, if_neg hc60, if_neg hc61], X49, N49, e49⟩
       · refine Go.step (fun t k => XS.icmpYes X49.here hx rfl (pc0 := 316) (pc' := 324) rfl (hb hby at_316) rfl (feq hc59).2 (by decide) (by decide) k) ?_
         show Go p e below _ (T49.setTop (mkF m 324 _ []))
         refine gJ (q := 326) X49 hx (hb hby at_324) rfl rfl ?_
         refine Go.step (fun t k => XS.bipush X49.here hx rfl (hb hby at_326)  k) ?_
         show Go p e below _ (T49.setTop (mkF m 328 _ [(.int (45 : Int32)), (.int v37)]))
         by_cases hc63 : v37 = (45 : Int32)
         · refine Go.step (fun t k => XS.icmpNo X49.here hx rfl (hb hby at_328) rfl (teq hc63).2 k) ?_
           show Go p e below _ (T49.setTop (mkF m 331 _ []))
           refine gJ (q := 333) X49 hx (hb hby at_331) rfl rfl ?_
           refine gJ (q := 335) X49 hx (hb hby at_333) rfl rfl ?_
           by_cases hc64 : v50 = v32
           · refine Go.step (fun t k => XS.icmpNo X49.here hx rfl (hb hby at_335) rfl (teq hc64).2 k) ?_
             show Go p e below _ (T49.setTop (mkF m 338 _ []))
             refine gC (q := 339) (v := 1) X49 hx (hb hby at_338) rfl rfl ?_
             refine Go.step (fun t k => XS.goto X49.here hx rfl (pc0 := 339) (pc' := 343) rfl (hb hby at_339) (by decide) (by decide) k) ?_
             show Go p e below _ (T49.setTop (mkF m 343 _ [(.int (1 : Int32))]))
             exact Go.here ⟨_, _, by simp only [hv65, if_neg hc51, if_pos hc58, if_neg hc59, if_pos hc63, if_pos hc64], X49, N49, e49⟩
           · refine Go.step (fun t k => XS.icmpYes X49.here hx rfl (pc0 := 335) (pc' := 342) rfl (hb hby at_335) rfl (feq hc64).2 (by decide) (by decide) k) ?_
             show Go p e below _ (T49.setTop (mkF m 342 _ []))
             refine gC (q := 343) (v := 0) X49 hx (hb hby at_342) rfl rfl ?_
             show Go p e below _ (T49.setTop (mkF m 343 _ [(.int (0 : Int32))]))
             exact Go.here ⟨_, _, by simp only [hv65, if_neg hc51, if_pos hc58, if_neg hc59, if_pos hc63, if_neg hc64], X49, N49, e49⟩
         · refine Go.step (fun t k => XS.icmpYes X49.here hx rfl (pc0 := 328) (pc' := 342) rfl (hb hby at_328) rfl (feq hc63).2 (by decide) (by decide) k) ?_
           show Go p e below _ (T49.setTop (mkF m 342 _ []))
           refine gC (q := 343) (v := 0) X49 hx (hb hby at_342) rfl rfl ?_
           show Go p e below _ (T49.setTop (mkF m 343 _ [(.int (0 : Int32))]))
           exact Go.here ⟨_, _, by simp only [hv65, if_neg hc51, if_pos hc58, if_neg hc59, if_neg hc63], X49, N49, e49⟩
     · refine Go.step (fun t k => XS.icmpYes X49.here hx rfl (pc0 := 309) (pc' := 338) rfl (hb hby at_309) rfl (flt hc58).2.2.2 (by decide) (by decide) k) ?_
       show Go p e below _ (T49.setTop (mkF m 338 _ []))
       refine gC (q := 339) (v := 1) X49 hx (hb hby at_338) rfl rfl ?_
       refine Go.step (fun t k => XS.goto X49.here hx rfl (pc0 := 339) (pc' := 343) rfl (hb hby at_339) (by decide) (by decide) k) ?_
       show Go p e below _ (T49.setTop (mkF m 343 _ [(.int (1 : Int32))]))
       exact Go.here ⟨_, _, by simp only [hv65, if_neg hc51, if_neg hc58], X49, N49, e49⟩
  obtain ⟨_, st66, T66, Lj66, rfl, X66, N66, e66⟩ := J302
  refine Go.trans st66 ?_
  show Go p e below _ (T66.setTop (mkF m 343 _ [(.int v65)]))
  refine Go.step (fun t k => XS.istore X66.here hx rfl (hb hby at_343) rfl (l' := #[.val (.long q1), .second, .val (.int p2), .val (.int p3), .val (.ref b4), .val (.int v24), .val (.int v26), .val (.int v29), .val (.int v31), .val (.int v32), .val (.int v34), .val (.int v36), .val (.int v37), .val (.int v38), .val (.int v39), .val (.long v40), .second, .val (.long v42), .second, .val (.int v45), .val (.int v50), .val (.int v65), .unset, .unset, .unset, .unset, .unset, .unset, .unset]) rfl k) ?_
  show Go p e below _ (T66.setTop (mkF m 345 _ []))
  refine gJ (q := 347) X66 hx (hb hby at_345) rfl rfl ?_
  obtain ⟨v69, hv69⟩ : ∃ z : Int32, z = (if v34 = (0 : Int32) then (if v65 = (0 : Int32) then ((v50 + (1 : Int32)) + v36) else v50) else v50) := ⟨_, rfl⟩
  have J347 : Go p e below (AtF p l e room_1 s m #[(.long q1), (.int p2), (.int p3)] below meth c n0 1 19 h23 (mkF m 367 #[.val (.long q1), .second, .val (.int p2), .val (.int p3), .val (.ref b4), .val (.int v24), .val (.int v26), .val (.int v29), .val (.int v31), .val (.int v32), .val (.int v34), .val (.int v36), .val (.int v37), .val (.int v38), .val (.int v39), .val (.long v40), .second, .val (.long v42), .second, .val (.int v45), .val (.int v50), .val (.int v65), .unset, .unset, .unset, .unset, .unset, .unset, .unset] [(.int v69)])) (T66.setTop (mkF m 347 #[.val (.long q1), .second, .val (.int p2), .val (.int p3), .val (.ref b4), .val (.int v24), .val (.int v26), .val (.int v29), .val (.int v31), .val (.int v32), .val (.int v34), .val (.int v36), .val (.int v37), .val (.int v38), .val (.int v39), .val (.long v40), .second, .val (.long v42), .second, .val (.int v45), .val (.int v50), .val (.int v65), .unset, .unset, .unset, .unset, .unset, .unset, .unset] [(.int v34)])) := by
   by_cases hc67 : v34 = (0 : Int32)
   · refine Go.step (fun t k => XS.ifNo X66.here hx rfl (hb hby at_347) rfl ((if0 _ _).trans (teq hc67).2) k) ?_
     show Go p e below _ (T66.setTop (mkF m 350 _ []))
     refine gJ (q := 352) X66 hx (hb hby at_350) rfl rfl ?_
     by_cases hc68 : v65 = (0 : Int32)
     · refine Go.step (fun t k => XS.ifYes X66.here hx rfl (pc0 := 352) (pc' := 360) rfl (hb hby at_352) rfl ((if0 _ _).trans (teq hc68).1) (by decide) (by decide) k) ?_
       show Go p e below _ (T66.setTop (mkF m 360 _ []))
       refine gJ (q := 362) X66 hx (hb hby at_360) rfl rfl ?_
       refine gC (q := 363) (v := 1) X66 hx (hb hby at_362) rfl rfl ?_
       refine Go.step (fun t k => XS.iadd X66.here hx rfl (hb hby at_363) rfl k) ?_
       show Go p e below _ (T66.setTop (mkF m 364 _ [(.int (v50 + (1 : Int32)))]))
       refine gJ (q := 366) X66 hx (hb hby at_364) rfl rfl ?_
       refine Go.step (fun t k => XS.iadd X66.here hx rfl (hb hby at_366) rfl k) ?_
       show Go p e below _ (T66.setTop (mkF m 367 _ [(.int ((v50 + (1 : Int32)) + v36))]))
       exact Go.here ⟨_, _, by simp only [hv69, if_pos hc67, if_pos hc68], X66, N66, e66⟩
     · refine Go.step (fun t k => XS.ifNo X66.here hx rfl (hb hby at_352) rfl ((if0 _ _).trans (feq hc68).1) k) ?_
       show Go p e below _ (T66.setTop (mkF m 355 _ []))
       refine gJ (q := 357) X66 hx (hb hby at_355) rfl rfl ?_
       refine Go.step (fun t k => XS.goto X66.here hx rfl (pc0 := 357) (pc' := 367) rfl (hb hby at_357) (by decide) (by decide) k) ?_
       show Go p e below _ (T66.setTop (mkF m 367 _ [(.int v50)]))
       exact Go.here ⟨_, _, by simp only [hv69, if_pos hc67, if_neg hc68], X66, N66, e66⟩
   · refine Go.step (fun t k => XS.ifYes X66.here hx rfl (pc0 := 347) (pc' := 355) rfl (hb hby at_347) rfl ((if0 _ _).trans (feq hc67).2) (by decide) (by decide) k) ?_
     show Go p e below _ (T66.setTop (mkF m 355 _ []))
     refine gJ (q := 357) X66 hx (hb hby at_355) rfl rfl ?_
     refine Go.step (fun t k => XS.goto X66.here hx rfl (pc0 := 357) (pc' := 367) rfl (hb hby at_357) (by decide) (by decide) k) ?_
     show Go p e below _ (T66.setTop (mkF m 367 _ [(.int v50)]))
     exact Go.here ⟨_, _, by simp only [hv69, if_neg hc67], X66, N66, e66⟩
  obtain ⟨_, st70, T70, Lj70, rfl, X70, N70, e70⟩ := J347
  refine Go.trans st70 ?_
  show Go p e below _ (T70.setTop (mkF m 367 _ [(.int v69)]))
  refine Go.step (fun t k => XS.istore X70.here hx rfl (hb hby at_367) rfl (l' := #[.val (.long q1), .second, .val (.int p2), .val (.int p3), .val (.ref b4), .val (.int v24), .val (.int v26), .val (.int v29), .val (.int v31), .val (.int v32), .val (.int v34), .val (.int v36), .val (.int v37), .val (.int v38), .val (.int v39), .val (.long v40), .second, .val (.long v42), .second, .val (.int v45), .val (.int v50), .val (.int v65), .val (.int v69), .unset, .unset, .unset, .unset, .unset, .unset]) rfl k) ?_
  show Go p e below _ (T70.setTop (mkF m 369 _ []))
  refine Go.step (fun t k => XS.bipush X70.here hx rfl (hb hby at_369)  k) ?_
  show Go p e below _ (T70.setTop (mkF m 371 _ [(.int (10 : Int32))]))
  obtain ⟨T71, h71, k71, X71, e71, E71, A71, st71⟩ := newP X70 hx hZ (hw _ (List.mem_of_getElem? (i := 20) rfl)) e70 (g := (mkF m 371 #[.val (.long q1), .second, .val (.int p2), .val (.int p3), .val (.ref b4), .val (.int v24), .val (.int v26), .val (.int v29), .val (.int v31), .val (.int v32), .val (.int v34), .val (.int v36), .val (.int v37), .val (.int v38), .val (.int v39), .val (.long v40), .second, .val (.long v42), .second, .val (.int v45), .val (.int v50), .val (.int v65), .val (.int v69), .unset, .unset, .unset, .unset, .unset, .unset] [(.int (10 : Int32))])) rfl (hb hby at_371) rfl (by decide) (cap := 10) (by decide) (by decide) (by decide) (by decide)
  obtain ⟨b71, g71⟩ : ∃ z, z = h23.size := ⟨_, rfl⟩
  rw [← g71] at A71 st71
  have g_b71 : n0 ≤ b71 := Nat.le_trans Z23 (Nat.le_of_eq g71.symm)
  have sz_b71 : h0.size ≤ b71 := Nat.le_trans KK23.1 (Nat.le_of_eq g71.symm)
  have ne_b4_b71 : b4 ≠ b71 := Nat.ne_of_lt (Nat.lt_of_lt_of_le A_b4_23e.lt (Nat.le_of_eq g71.symm))
  refine Go.step st71 ?_
  have A_b4_71 := A_b4_23e.ext E71
  have Z71 := Nat.le_trans Z23 E71.1
  have KK71 : Keep h0 h71 [] := KK23.ext E71
  have A_b71_71 : Ary Z h71 b71 .int 10 (fun i => .int ((fun _ => (0 : Int32)) i)) := Ary.mk A71 (by decide) (by decide)
  replace X71 : Stand p l e room_1 s m #[(.long q1), (.int p2), (.int p3)] below meth c T71 _ 2 29 := X71
  show Go p e below _ (T71.setTop (mkF m 373 _ [(.ref b71)]))
  refine Go.step (fun t k => XS.dup X71.here hx rfl (hb hby at_373) rfl rfl k) ?_
  show Go p e below _ (T71.setTop (mkF m 374 _ [(.ref b71), (.ref b71)]))
  refine gC (q := 375) (v := 0) X71 hx (hb hby at_374) rfl rfl ?_
  refine gJ (q := 377) X71 hx (hb hby at_375) rfl rfl ?_
  obtain ⟨cl72, Ar72, in72, -⟩ := A_b71_71.hin (j := (0 : Int32)) (by decide) (by decide)
  obtain ⟨T72, h72, X72, e72, W72, st72⟩ := stI X71 hx hZ e71 Ar72 in72 (g := (mkF m 377 #[.val (.long q1), .second, .val (.int p2), .val (.int p3), .val (.ref b4), .val (.int v24), .val (.int v26), .val (.int v29), .val (.int v31), .val (.int v32), .val (.int v34), .val (.int v36), .val (.int v37), .val (.int v38), .val (.int v39), .val (.long v40), .second, .val (.long v42), .second, .val (.int v45), .val (.int v50), .val (.int v65), .val (.int v69), .unset, .unset, .unset, .unset, .unset, .unset] [(.int v32), (.int (0 : Int32)), (.ref b71), (.ref b71)])) rfl rfl (hb hby at_377)
  refine Go.step st72 ?_
  have N72 := Fr.snoc X72 N70 g_b71
  have A_b4_72 := A_b4_71.other W72 ne_b4_b71
  have Z72 := Nat.le_trans Z71 (Keep.of_wr W72).1
  have KK72 : Keep h0 h72 [] := KK71.wr W72 (Or.inr sz_b71)
  have A_b71_72 : Ary Z h72 b71 .int 10 (fun i => .int ((upA (fun _ => (0 : Int32)) 0 v32) i)) := A_b71_71.setI W72 (by decide)
  show Go p e below _ (T72.setTop (mkF m 378 _ [(.ref b71)]))
  refine Go.step (fun t k => XS.dup X72.here hx rfl (hb hby at_378) rfl rfl k) ?_
  show Go p e below _ (T72.setTop (mkF m 379 _ [(.ref b71), (.ref b71)]))
  refine gC (q := 380) (v := 1) X72 hx (hb hby at_379) rfl rfl ?_
  refine gJ (q := 382) X72 hx (hb hby at_380) rfl rfl ?_
  obtain ⟨v74, hv74⟩ : ∃ z : Int32, z = (if v26 = (0 : Int32) then (0 : Int32) else (1 : Int32)) := ⟨_, rfl⟩
  have J382 : Go p e below (AtF p l e room_1 s m #[(.long q1), (.int p2), (.int p3)] below meth c n0 2 29 h72 (mkF m 390 #[.val (.long q1), .second, .val (.int p2), .val (.int p3), .val (.ref b4), .val (.int v24), .val (.int v26), .val (.int v29), .val (.int v31), .val (.int v32), .val (.int v34), .val (.int v36), .val (.int v37), .val (.int v38), .val (.int v39), .val (.long v40), .second, .val (.long v42), .second, .val (.int v45), .val (.int v50), .val (.int v65), .val (.int v69), .unset, .unset, .unset, .unset, .unset, .unset] [(.int v74), (.int (1 : Int32)), (.ref b71), (.ref b71)])) (T72.setTop (mkF m 382 #[.val (.long q1), .second, .val (.int p2), .val (.int p3), .val (.ref b4), .val (.int v24), .val (.int v26), .val (.int v29), .val (.int v31), .val (.int v32), .val (.int v34), .val (.int v36), .val (.int v37), .val (.int v38), .val (.int v39), .val (.long v40), .second, .val (.long v42), .second, .val (.int v45), .val (.int v50), .val (.int v65), .val (.int v69), .unset, .unset, .unset, .unset, .unset, .unset] [(.int v26), (.int (1 : Int32)), (.ref b71), (.ref b71)])) := by
   by_cases hc73 : v26 = (0 : Int32)
   · refine Go.step (fun t k => XS.ifYes X72.here hx rfl (pc0 := 382) (pc' := 389) rfl (hb hby at_382) rfl ((if0 _ _).trans (teq hc73).1) (by decide) (by decide) k) ?_
     show Go p e below _ (T72.setTop (mkF m 389 _ [(.int (1 : Int32)), (.ref b71), (.ref b71)]))
     refine gC (q := 390) (v := 0) X72 hx (hb hby at_389) rfl rfl ?_
     show Go p e below _ (T72.setTop (mkF m 390 _ [(.int (0 : Int32)), (.int (1 : Int32)), (.ref b71), (.ref b71)]))
     exact Go.here ⟨_, _, by simp only [hv74, if_pos hc73], X72, N72, e72⟩
   · refine Go.step (fun t k => XS.ifNo X72.here hx rfl (hb hby at_382) rfl ((if0 _ _).trans (feq hc73).1) k) ?_
     show Go p e below _ (T72.setTop (mkF m 385 _ [(.int (1 : Int32)), (.ref b71), (.ref b71)]))
     refine gC (q := 386) (v := 1) X72 hx (hb hby at_385) rfl rfl ?_
     refine Go.step (fun t k => XS.goto X72.here hx rfl (pc0 := 386) (pc' := 390) rfl (hb hby at_386) (by decide) (by decide) k) ?_
     show Go p e below _ (T72.setTop (mkF m 390 _ [(.int (1 : Int32)), (.int (1 : Int32)), (.ref b71), (.ref b71)]))
     exact Go.here ⟨_, _, by simp only [hv74, if_neg hc73], X72, N72, e72⟩
  obtain ⟨_, st75, T75, Lj75, rfl, X75, N75, e75⟩ := J382
  refine Go.trans st75 ?_
  show Go p e below _ (T75.setTop (mkF m 390 _ [(.int v74), (.int (1 : Int32)), (.ref b71), (.ref b71)]))
  obtain ⟨cl76, Ar76, in76, -⟩ := A_b71_72.hin (j := (1 : Int32)) (by decide) (by decide)
  obtain ⟨T76, h76, X76, e76, W76, st76⟩ := stI X75 hx hZ e75 Ar76 in76 (g := (mkF m 390 #[.val (.long q1), .second, .val (.int p2), .val (.int p3), .val (.ref b4), .val (.int v24), .val (.int v26), .val (.int v29), .val (.int v31), .val (.int v32), .val (.int v34), .val (.int v36), .val (.int v37), .val (.int v38), .val (.int v39), .val (.long v40), .second, .val (.long v42), .second, .val (.int v45), .val (.int v50), .val (.int v65), .val (.int v69), .unset, .unset, .unset, .unset, .unset, .unset] [(.int v74), (.int (1 : Int32)), (.ref b71), (.ref b71)])) rfl rfl (hb hby at_390)
  refine Go.step st76 ?_
  have N76 := Fr.snoc X76 N75 g_b71
  have A_b4_76 := A_b4_72.other W76 ne_b4_b71
  have Z76 := Nat.le_trans Z72 (Keep.of_wr W76).1
  have KK76 : Keep h0 h76 [] := KK72.wr W76 (Or.inr sz_b71)
  have A_b71_76 : Ary Z h76 b71 .int 10 (fun i => .int ((upA (upA (fun _ => (0 : Int32)) 0 v32) 1 v74) i)) := A_b71_72.setI W76 (by decide)
  show Go p e below _ (T76.setTop (mkF m 391 _ [(.ref b71)]))
  refine Go.step (fun t k => XS.dup X76.here hx rfl (hb hby at_391) rfl rfl k) ?_
  show Go p e below _ (T76.setTop (mkF m 392 _ [(.ref b71), (.ref b71)]))
  refine gC (q := 393) (v := 2) X76 hx (hb hby at_392) rfl rfl ?_
  refine gJ (q := 395) X76 hx (hb hby at_393) rfl rfl ?_
  obtain ⟨cl77, Ar77, in77, -⟩ := A_b71_76.hin (j := (2 : Int32)) (by decide) (by decide)
  obtain ⟨T77, h77, X77, e77, W77, st77⟩ := stI X76 hx hZ e76 Ar77 in77 (g := (mkF m 395 #[.val (.long q1), .second, .val (.int p2), .val (.int p3), .val (.ref b4), .val (.int v24), .val (.int v26), .val (.int v29), .val (.int v31), .val (.int v32), .val (.int v34), .val (.int v36), .val (.int v37), .val (.int v38), .val (.int v39), .val (.long v40), .second, .val (.long v42), .second, .val (.int v45), .val (.int v50), .val (.int v65), .val (.int v69), .unset, .unset, .unset, .unset, .unset, .unset] [(.int v45), (.int (2 : Int32)), (.ref b71), (.ref b71)])) rfl rfl (hb hby at_395)
  refine Go.step st77 ?_
  have N77 := Fr.snoc X77 N76 g_b71
  have A_b4_77 := A_b4_76.other W77 ne_b4_b71
  have Z77 := Nat.le_trans Z76 (Keep.of_wr W77).1
  have KK77 : Keep h0 h77 [] := KK76.wr W77 (Or.inr sz_b71)
  have A_b71_77 : Ary Z h77 b71 .int 10 (fun i => .int ((upA (upA (upA (fun _ => (0 : Int32)) 0 v32) 1 v74) 2 v45) i)) := A_b71_76.setI W77 (by decide)
  show Go p e below _ (T77.setTop (mkF m 396 _ [(.ref b71)]))
  refine Go.step (fun t k => XS.dup X77.here hx rfl (hb hby at_396) rfl rfl k) ?_
  show Go p e below _ (T77.setTop (mkF m 397 _ [(.ref b71), (.ref b71)]))
  refine gC (q := 398) (v := 3) X77 hx (hb hby at_397) rfl rfl ?_
  refine gJ (q := 400) X77 hx (hb hby at_398) rfl rfl ?_
  obtain ⟨cl78, Ar78, in78, -⟩ := A_b71_77.hin (j := (3 : Int32)) (by decide) (by decide)
  obtain ⟨T78, h78, X78, e78, W78, st78⟩ := stI X77 hx hZ e77 Ar78 in78 (g := (mkF m 400 #[.val (.long q1), .second, .val (.int p2), .val (.int p3), .val (.ref b4), .val (.int v24), .val (.int v26), .val (.int v29), .val (.int v31), .val (.int v32), .val (.int v34), .val (.int v36), .val (.int v37), .val (.int v38), .val (.int v39), .val (.long v40), .second, .val (.long v42), .second, .val (.int v45), .val (.int v50), .val (.int v65), .val (.int v69), .unset, .unset, .unset, .unset, .unset, .unset] [(.int v24), (.int (3 : Int32)), (.ref b71), (.ref b71)])) rfl rfl (hb hby at_400)
  refine Go.step st78 ?_
  have N78 := Fr.snoc X78 N77 g_b71
  have A_b4_78 := A_b4_77.other W78 ne_b4_b71
  have Z78 := Nat.le_trans Z77 (Keep.of_wr W78).1
  have KK78 : Keep h0 h78 [] := KK77.wr W78 (Or.inr sz_b71)
  have A_b71_78 : Ary Z h78 b71 .int 10 (fun i => .int ((upA (upA (upA (upA (fun _ => (0 : Int32)) 0 v32) 1 v74) 2 v45) 3 v24) i)) := A_b71_77.setI W78 (by decide)
  show Go p e below _ (T78.setTop (mkF m 401 _ [(.ref b71)]))
  refine Go.step (fun t k => XS.dup X78.here hx rfl (hb hby at_401) rfl rfl k) ?_
  show Go p e below _ (T78.setTop (mkF m 402 _ [(.ref b71), (.ref b71)]))
  refine gC (q := 403) (v := 4) X78 hx (hb hby at_402) rfl rfl ?_
  refine gJ (q := 405) X78 hx (hb hby at_403) rfl rfl ?_
  obtain ⟨v80, hv80⟩ : ∃ z : Int32, z = (if v29 = (0 : Int32) then (0 : Int32) else (1 : Int32)) := ⟨_, rfl⟩
  have J405 : Go p e below (AtF p l e room_1 s m #[(.long q1), (.int p2), (.int p3)] below meth c n0 2 29 h78 (mkF m 413 #[.val (.long q1), .second, .val (.int p2), .val (.int p3), .val (.ref b4), .val (.int v24), .val (.int v26), .val (.int v29), .val (.int v31), .val (.int v32), .val (.int v34), .val (.int v36), .val (.int v37), .val (.int v38), .val (.int v39), .val (.long v40), .second, .val (.long v42), .second, .val (.int v45), .val (.int v50), .val (.int v65), .val (.int v69), .unset, .unset, .unset, .unset, .unset, .unset] [(.int v80), (.int (4 : Int32)), (.ref b71), (.ref b71)])) (T78.setTop (mkF m 405 #[.val (.long q1), .second, .val (.int p2), .val (.int p3), .val (.ref b4), .val (.int v24), .val (.int v26), .val (.int v29), .val (.int v31), .val (.int v32), .val (.int v34), .val (.int v36), .val (.int v37), .val (.int v38), .val (.int v39), .val (.long v40), .second, .val (.long v42), .second, .val (.int v45), .val (.int v50), .val (.int v65), .val (.int v69), .unset, .unset, .unset, .unset, .unset, .unset] [(.int v29), (.int (4 : Int32)), (.ref b71), (.ref b71)])) := by
   by_cases hc79 : v29 = (0 : Int32)
   · refine Go.step (fun t k => XS.ifYes X78.here hx rfl (pc0 := 405) (pc' := 412) rfl (hb hby at_405) rfl ((if0 _ _).trans (teq hc79).1) (by decide) (by decide) k) ?_
     show Go p e below _ (T78.setTop (mkF m 412 _ [(.int (4 : Int32)), (.ref b71), (.ref b71)]))
     refine gC (q := 413) (v := 0) X78 hx (hb hby at_412) rfl rfl ?_
     show Go p e below _ (T78.setTop (mkF m 413 _ [(.int (0 : Int32)), (.int (4 : Int32)), (.ref b71), (.ref b71)]))
     exact Go.here ⟨_, _, by simp only [hv80, if_pos hc79], X78, N78, e78⟩
   · refine Go.step (fun t k => XS.ifNo X78.here hx rfl (hb hby at_405) rfl ((if0 _ _).trans (feq hc79).1) k) ?_
     show Go p e below _ (T78.setTop (mkF m 408 _ [(.int (4 : Int32)), (.ref b71), (.ref b71)]))
     refine gC (q := 409) (v := 1) X78 hx (hb hby at_408) rfl rfl ?_
     refine Go.step (fun t k => XS.goto X78.here hx rfl (pc0 := 409) (pc' := 413) rfl (hb hby at_409) (by decide) (by decide) k) ?_
     show Go p e below _ (T78.setTop (mkF m 413 _ [(.int (1 : Int32)), (.int (4 : Int32)), (.ref b71), (.ref b71)]))
     exact Go.here ⟨_, _, by simp only [hv80, if_neg hc79], X78, N78, e78⟩
  obtain ⟨_, st81, T81, Lj81, rfl, X81, N81, e81⟩ := J405
  refine Go.trans st81 ?_
  show Go p e below _ (T81.setTop (mkF m 413 _ [(.int v80), (.int (4 : Int32)), (.ref b71), (.ref b71)]))
  obtain ⟨cl82, Ar82, in82, -⟩ := A_b71_78.hin (j := (4 : Int32)) (by decide) (by decide)
  obtain ⟨T82, h82, X82, e82, W82, st82⟩ := stI X81 hx hZ e81 Ar82 in82 (g := (mkF m 413 #[.val (.long q1), .second, .val (.int p2), .val (.int p3), .val (.ref b4), .val (.int v24), .val (.int v26), .val (.int v29), .val (.int v31), .val (.int v32), .val (.int v34), .val (.int v36), .val (.int v37), .val (.int v38), .val (.int v39), .val (.long v40), .second, .val (.long v42), .second, .val (.int v45), .val (.int v50), .val (.int v65), .val (.int v69), .unset, .unset, .unset, .unset, .unset, .unset] [(.int v80), (.int (4 : Int32)), (.ref b71), (.ref b71)])) rfl rfl (hb hby at_413)
  refine Go.step st82 ?_
  have N82 := Fr.snoc X82 N81 g_b71
  have A_b4_82 := A_b4_78.other W82 ne_b4_b71
  have Z82 := Nat.le_trans Z78 (Keep.of_wr W82).1
  have KK82 : Keep h0 h82 [] := KK78.wr W82 (Or.inr sz_b71)
  have A_b71_82 : Ary Z h82 b71 .int 10 (fun i => .int ((upA (upA (upA (upA (upA (fun _ => (0 : Int32)) 0 v32) 1 v74) 2 v45) 3 v24) 4 v80) i)) := A_b71_78.setI W82 (by decide)
  show Go p e below _ (T82.setTop (mkF m 414 _ [(.ref b71)]))
  refine Go.step (fun t k => XS.dup X82.here hx rfl (hb hby at_414) rfl rfl k) ?_
  show Go p e below _ (T82.setTop (mkF m 415 _ [(.ref b71), (.ref b71)]))
  refine gC (q := 416) (v := 5) X82 hx (hb hby at_415) rfl rfl ?_
  refine gJ (q := 418) X82 hx (hb hby at_416) rfl rfl ?_
  obtain ⟨cl83, Ar83, in83, -⟩ := A_b71_82.hin (j := (5 : Int32)) (by decide) (by decide)
  obtain ⟨T83, h83, X83, e83, W83, st83⟩ := stI X82 hx hZ e82 Ar83 in83 (g := (mkF m 418 #[.val (.long q1), .second, .val (.int p2), .val (.int p3), .val (.ref b4), .val (.int v24), .val (.int v26), .val (.int v29), .val (.int v31), .val (.int v32), .val (.int v34), .val (.int v36), .val (.int v37), .val (.int v38), .val (.int v39), .val (.long v40), .second, .val (.long v42), .second, .val (.int v45), .val (.int v50), .val (.int v65), .val (.int v69), .unset, .unset, .unset, .unset, .unset, .unset] [(.int v31), (.int (5 : Int32)), (.ref b71), (.ref b71)])) rfl rfl (hb hby at_418)
  refine Go.step st83 ?_
  have N83 := Fr.snoc X83 N82 g_b71
  have A_b4_83 := A_b4_82.other W83 ne_b4_b71
  have Z83 := Nat.le_trans Z82 (Keep.of_wr W83).1
  have KK83 : Keep h0 h83 [] := KK82.wr W83 (Or.inr sz_b71)
  have A_b71_83 : Ary Z h83 b71 .int 10 (fun i => .int ((upA (upA (upA (upA (upA (upA (fun _ => (0 : Int32)) 0 v32) 1 v74) 2 v45) 3 v24) 4 v80) 5 v31) i)) := A_b71_82.setI W83 (by decide)
  show Go p e below _ (T83.setTop (mkF m 419 _ [(.ref b71)]))
  refine Go.step (fun t k => XS.dup X83.here hx rfl (hb hby at_419) rfl rfl k) ?_
  show Go p e below _ (T83.setTop (mkF m 420 _ [(.ref b71), (.ref b71)]))
  refine Go.step (fun t k => XS.bipush X83.here hx rfl (hb hby at_420)  k) ?_
  show Go p e below _ (T83.setTop (mkF m 422 _ [(.int (6 : Int32)), (.ref b71), (.ref b71)]))
  refine gJ (q := 424) X83 hx (hb hby at_422) rfl rfl ?_
  obtain ⟨cl84, Ar84, in84, -⟩ := A_b71_83.hin (j := (6 : Int32)) (by decide) (by decide)
  obtain ⟨T84, h84, X84, e84, W84, st84⟩ := stI X83 hx hZ e83 Ar84 in84 (g := (mkF m 424 #[.val (.long q1), .second, .val (.int p2), .val (.int p3), .val (.ref b4), .val (.int v24), .val (.int v26), .val (.int v29), .val (.int v31), .val (.int v32), .val (.int v34), .val (.int v36), .val (.int v37), .val (.int v38), .val (.int v39), .val (.long v40), .second, .val (.long v42), .second, .val (.int v45), .val (.int v50), .val (.int v65), .val (.int v69), .unset, .unset, .unset, .unset, .unset, .unset] [(.int v50), (.int (6 : Int32)), (.ref b71), (.ref b71)])) rfl rfl (hb hby at_424)
  refine Go.step st84 ?_
  have N84 := Fr.snoc X84 N83 g_b71
  have A_b4_84 := A_b4_83.other W84 ne_b4_b71
  have Z84 := Nat.le_trans Z83 (Keep.of_wr W84).1
  have KK84 : Keep h0 h84 [] := KK83.wr W84 (Or.inr sz_b71)
  have A_b71_84 : Ary Z h84 b71 .int 10 (fun i => .int ((upA (upA (upA (upA (upA (upA (upA (fun _ => (0 : Int32)) 0 v32) 1 v74) 2 v45) 3 v24) 4 v80) 5 v31) 6 v50) i)) := A_b71_83.setI W84 (by decide)
  show Go p e below _ (T84.setTop (mkF m 425 _ [(.ref b71)]))
  refine Go.step (fun t k => XS.dup X84.here hx rfl (hb hby at_425) rfl rfl k) ?_
  show Go p e below _ (T84.setTop (mkF m 426 _ [(.ref b71), (.ref b71)]))
  refine Go.step (fun t k => XS.bipush X84.here hx rfl (hb hby at_426)  k) ?_
  show Go p e below _ (T84.setTop (mkF m 428 _ [(.int (7 : Int32)), (.ref b71), (.ref b71)]))
  refine gJ (q := 430) X84 hx (hb hby at_428) rfl rfl ?_
  obtain ⟨cl85, Ar85, in85, -⟩ := A_b71_84.hin (j := (7 : Int32)) (by decide) (by decide)
  obtain ⟨T85, h85, X85, e85, W85, st85⟩ := stI X84 hx hZ e84 Ar85 in85 (g := (mkF m 430 #[.val (.long q1), .second, .val (.int p2), .val (.int p3), .val (.ref b4), .val (.int v24), .val (.int v26), .val (.int v29), .val (.int v31), .val (.int v32), .val (.int v34), .val (.int v36), .val (.int v37), .val (.int v38), .val (.int v39), .val (.long v40), .second, .val (.long v42), .second, .val (.int v45), .val (.int v50), .val (.int v65), .val (.int v69), .unset, .unset, .unset, .unset, .unset, .unset] [(.int v37), (.int (7 : Int32)), (.ref b71), (.ref b71)])) rfl rfl (hb hby at_430)
  refine Go.step st85 ?_
  have N85 := Fr.snoc X85 N84 g_b71
  have A_b4_85 := A_b4_84.other W85 ne_b4_b71
  have Z85 := Nat.le_trans Z84 (Keep.of_wr W85).1
  have KK85 : Keep h0 h85 [] := KK84.wr W85 (Or.inr sz_b71)
  have A_b71_85 : Ary Z h85 b71 .int 10 (fun i => .int ((upA (upA (upA (upA (upA (upA (upA (upA (fun _ => (0 : Int32)) 0 v32) 1 v74) 2 v45) 3 v24) 4 v80) 5 v31) 6 v50) 7 v37) i)) := A_b71_84.setI W85 (by decide)
  show Go p e below _ (T85.setTop (mkF m 431 _ [(.ref b71)]))
  refine Go.step (fun t k => XS.dup X85.here hx rfl (hb hby at_431) rfl rfl k) ?_
  show Go p e below _ (T85.setTop (mkF m 432 _ [(.ref b71), (.ref b71)]))
  refine Go.step (fun t k => XS.bipush X85.here hx rfl (hb hby at_432)  k) ?_
  show Go p e below _ (T85.setTop (mkF m 434 _ [(.int (8 : Int32)), (.ref b71), (.ref b71)]))
  refine gJ (q := 436) X85 hx (hb hby at_434) rfl rfl ?_
  obtain ⟨cl86, Ar86, in86, -⟩ := A_b71_85.hin (j := (8 : Int32)) (by decide) (by decide)
  obtain ⟨T86, h86, X86, e86, W86, st86⟩ := stI X85 hx hZ e85 Ar86 in86 (g := (mkF m 436 #[.val (.long q1), .second, .val (.int p2), .val (.int p3), .val (.ref b4), .val (.int v24), .val (.int v26), .val (.int v29), .val (.int v31), .val (.int v32), .val (.int v34), .val (.int v36), .val (.int v37), .val (.int v38), .val (.int v39), .val (.long v40), .second, .val (.long v42), .second, .val (.int v45), .val (.int v50), .val (.int v65), .val (.int v69), .unset, .unset, .unset, .unset, .unset, .unset] [(.int v38), (.int (8 : Int32)), (.ref b71), (.ref b71)])) rfl rfl (hb hby at_436)
  refine Go.step st86 ?_
  have N86 := Fr.snoc X86 N85 g_b71
  have A_b4_86 := A_b4_85.other W86 ne_b4_b71
  have Z86 := Nat.le_trans Z85 (Keep.of_wr W86).1
  have KK86 : Keep h0 h86 [] := KK85.wr W86 (Or.inr sz_b71)
  have A_b71_86 : Ary Z h86 b71 .int 10 (fun i => .int ((upA (upA (upA (upA (upA (upA (upA (upA (upA (fun _ => (0 : Int32)) 0 v32) 1 v74) 2 v45) 3 v24) 4 v80) 5 v31) 6 v50) 7 v37) 8 v38) i)) := A_b71_85.setI W86 (by decide)
  show Go p e below _ (T86.setTop (mkF m 437 _ [(.ref b71)]))
  refine Go.step (fun t k => XS.dup X86.here hx rfl (hb hby at_437) rfl rfl k) ?_
  show Go p e below _ (T86.setTop (mkF m 438 _ [(.ref b71), (.ref b71)]))
  refine Go.step (fun t k => XS.bipush X86.here hx rfl (hb hby at_438)  k) ?_
  show Go p e below _ (T86.setTop (mkF m 440 _ [(.int (9 : Int32)), (.ref b71), (.ref b71)]))
  refine gJ (q := 442) X86 hx (hb hby at_440) rfl rfl ?_
  obtain ⟨cl87, Ar87, in87, -⟩ := A_b71_86.hin (j := (9 : Int32)) (by decide) (by decide)
  obtain ⟨T87, h87, X87, e87, W87, st87⟩ := stI X86 hx hZ e86 Ar87 in87 (g := (mkF m 442 #[.val (.long q1), .second, .val (.int p2), .val (.int p3), .val (.ref b4), .val (.int v24), .val (.int v26), .val (.int v29), .val (.int v31), .val (.int v32), .val (.int v34), .val (.int v36), .val (.int v37), .val (.int v38), .val (.int v39), .val (.long v40), .second, .val (.long v42), .second, .val (.int v45), .val (.int v50), .val (.int v65), .val (.int v69), .unset, .unset, .unset, .unset, .unset, .unset] [(.int v39), (.int (9 : Int32)), (.ref b71), (.ref b71)])) rfl rfl (hb hby at_442)
  refine Go.step st87 ?_
  have N87 := Fr.snoc X87 N86 g_b71
  have A_b4_87 := A_b4_86.other W87 ne_b4_b71
  have Z87 := Nat.le_trans Z86 (Keep.of_wr W87).1
  have KK87 : Keep h0 h87 [] := KK86.wr W87 (Or.inr sz_b71)
  have A_b71_87 : Ary Z h87 b71 .int 10 (fun i => .int ((upA (upA (upA (upA (upA (upA (upA (upA (upA (upA (fun _ => (0 : Int32)) 0 v32) 1 v74) 2 v45) 3 v24) 4 v80) 5 v31) 6 v50) 7 v37) 8 v38) 9 v39) i)) := A_b71_86.setI W87 (by decide)
  show Go p e below _ (T87.setTop (mkF m 443 _ [(.ref b71)]))
  refine Go.step (fun t k => XS.astore X87.here hx rfl (hb hby at_443) rfl rfl (l' := #[.val (.long q1), .second, .val (.int p2), .val (.int p3), .val (.ref b4), .val (.int v24), .val (.int v26), .val (.int v29), .val (.int v31), .val (.int v32), .val (.int v34), .val (.int v36), .val (.int v37), .val (.int v38), .val (.int v39), .val (.long v40), .second, .val (.long v42), .second, .val (.int v45), .val (.int v50), .val (.int v65), .val (.int v69), .val (.ref b71), .unset, .unset, .unset, .unset, .unset]) rfl k) ?_
  show Go p e below _ (T87.setTop (mkF m 445 _ []))
  obtain ⟨gs, hgs⟩ : ∃ z : Nat → Int32, z = (upA (upA (upA (upA (upA (upA (upA (upA (upA (upA (fun _ => (0 : Int32)) 0 v32) 1 v74) 2 v45) 3 v24) 4 v80) 5 v31) 6 v50) 7 v37) 8 v38) 9 v39) := ⟨_, rfl⟩
  have A_b71_87e : Ary Z h87 b71 .int 10 (fun i => .int (gs i)) := by rw [hgs]; exact A_b71_87
  have g0 : gs 0 = v32 := by rw [hgs]; rfl
  have g2 : gs 2 = v45 := by rw [hgs]; rfl
  have g3 : gs 3 = v24 := by rw [hgs]; rfl
  have g4 : gs 4 = v80 := by rw [hgs]; rfl
  have g5 : gs 5 = v31 := by rw [hgs]; rfl
  have g6 : gs 6 = v50 := by rw [hgs]; rfl
  have g7 : gs 7 = v37 := by rw [hgs]; rfl
  have hWf : Wf v24 v26 v29 v31 v32 v45 v50 v42 := own_wf hv24 hv26 hv29 hv31 hv32 hv40 hv42 hv45 hv48 hv50
  have hW : AtW gs := own_atw hWf g2 g3 g4 hv80 g5 g6
  show Go p e below _ (T87.setTop (mkF m 445 _ []))
  refine Go.step (fun t k => XS.bipush X87.here hx rfl (hb hby at_445)  k) ?_
  show Go p e below _ (T87.setTop (mkF m 447 _ [(.int (26 : Int32))]))
  obtain ⟨T88, h88, k88, X88, e88, E88, A88, st88⟩ := newP X87 hx hZ (hw _ (List.mem_of_getElem? (i := 21) rfl)) e87 (g := (mkF m 447 #[.val (.long q1), .second, .val (.int p2), .val (.int p3), .val (.ref b4), .val (.int v24), .val (.int v26), .val (.int v29), .val (.int v31), .val (.int v32), .val (.int v34), .val (.int v36), .val (.int v37), .val (.int v38), .val (.int v39), .val (.long v40), .second, .val (.long v42), .second, .val (.int v45), .val (.int v50), .val (.int v65), .val (.int v69), .val (.ref b71), .unset, .unset, .unset, .unset, .unset] [(.int (26 : Int32))])) rfl (hb hby at_447) rfl (by decide) (cap := 26) (by decide) (by decide) (by decide) (by decide)
  obtain ⟨b88, g88⟩ : ∃ z, z = h87.size := ⟨_, rfl⟩
  rw [← g88] at A88 st88
  have g_b88 : n0 ≤ b88 := Nat.le_trans Z87 (Nat.le_of_eq g88.symm)
  have sz_b88 : h0.size ≤ b88 := Nat.le_trans KK87.1 (Nat.le_of_eq g88.symm)
  have ne_b4_b88 : b4 ≠ b88 := Nat.ne_of_lt (Nat.lt_of_lt_of_le A_b4_87.lt (Nat.le_of_eq g88.symm))
  have ne_b71_b88 : b71 ≠ b88 := Nat.ne_of_lt (Nat.lt_of_lt_of_le A_b71_87e.lt (Nat.le_of_eq g88.symm))
  refine Go.step st88 ?_
  have A_b4_88 := A_b4_87.ext E88
  have A_b71_88 := A_b71_87e.ext E88
  have Z88 := Nat.le_trans Z87 E88.1
  have KK88 : Keep h0 h88 [] := KK87.ext E88
  have A_b88_88 : Ary Z h88 b88 .byte 26 (fun i => .int ((fun _ => (0 : Int32)) i)) := Ary.mk A88 (by decide) (by decide)
  replace X88 : Stand p l e room_1 s m #[(.long q1), (.int p2), (.int p3)] below meth c T88 _ 3 55 := X88
  show Go p e below _ (T88.setTop (mkF m 449 _ [(.ref b88)]))
  refine Go.step (fun t k => XS.astore X88.here hx rfl (hb hby at_449) rfl rfl (l' := #[.val (.long q1), .second, .val (.int p2), .val (.int p3), .val (.ref b4), .val (.int v24), .val (.int v26), .val (.int v29), .val (.int v31), .val (.int v32), .val (.int v34), .val (.int v36), .val (.int v37), .val (.int v38), .val (.int v39), .val (.long v40), .second, .val (.long v42), .second, .val (.int v45), .val (.int v50), .val (.int v65), .val (.int v69), .val (.ref b71), .val (.ref b88), .unset, .unset, .unset, .unset]) rfl k) ?_
  show Go p e below _ (T88.setTop (mkF m 451 _ []))
  have A_b88_88e : Ary Z h88 b88 .byte 26 (fun i => .int ((tK v42 gs 0) i)) := A_b88_88.congr fun i _ => congrArg Value.int (tK_0 _ _ i)
  show Go p e below _ (T88.setTop (mkF m 451 _ []))
  refine gB (q := 453) X88 hx (hb hby at_451) rfl rfl rfl ?_
  refine gC (q := 454) (v := 0) X88 hx (hb hby at_453) rfl rfl ?_
  refine gC (q := 455) (v := 0) X88 hx (hb hby at_454) rfl rfl ?_
  refine gB (q := 457) X88 hx (hb hby at_455) rfl rfl rfl ?_
  refine Go.step (fun t k => XS.lload X88.here hx rfl (hb hby at_457) rfl k) ?_
  show Go p e below _ (T88.setTop (mkF m 459 _ [(.long v42), (.ref b71), (.int (0 : Int32)), (.int (0 : Int32)), (.ref b88)]))
  refine gB (q := 461) X88 hx (hb hby at_459) rfl rfl rfl ?_
  obtain ⟨_, _, ⟨T89, L89, k89, n89⟩, -, X89, ⟨Lc89, hQ89, l89, y89, z89⟩, st89⟩ := Jvm.LawKit.callS X88 hx (y := (⟨"com/example/biller/biller/files/PlainValueReadPinLaw", "at", "(I[IJ[J)B"⟩ : MethodName)) hown (mvT hZ (hw _ (List.mem_of_getElem? (i := 22) rfl))) (mvT hZ (hw _ (List.mem_of_getElem? (i := 23) rfl))) (mvT hZ (hw _ (List.mem_of_getElem? (i := 24) rfl))) (mvT hZ (hw _ (List.mem_of_getElem? (i := 25) rfl))) (by decide) (backOf (W := 2) (rm1 l Z a0 hw [] (0 : Int32) b71 v42 b4 gs h88 n0 Z88 (hW : AtW gs) A_b71_88 A_b4_88) hZ (hw _ (List.mem_of_getElem? (i := 25) rfl)) (hw _ (List.mem_of_getElem? (i := 24) rfl)) (by decide) (by decide)) (g := (mkF m 461 #[.val (.long q1), .second, .val (.int p2), .val (.int p3), .val (.ref b4), .val (.int v24), .val (.int v26), .val (.int v29), .val (.int v31), .val (.int v32), .val (.int v34), .val (.int v36), .val (.int v37), .val (.int v38), .val (.int v39), .val (.long v40), .second, .val (.long v42), .second, .val (.int v45), .val (.int v50), .val (.int v65), .val (.int v69), .val (.ref b71), .val (.ref b88), .unset, .unset, .unset, .unset] [(.ref b4), (.long v42), (.ref b71), (.int (0 : Int32)), (.int (0 : Int32)), (.ref b88)])) rfl (by rw [hml]; rfl) (argsL := [(.int (0 : Int32)), (.ref b71), (.long v42), (.ref b4)]) (rest := [(.int (0 : Int32)), (.ref b88)]) (lenOf pd_0 rfl) rfl (by show 2 * 0 + _ ≤ _; exact Nat.le_of_eq rfl) (hb hby at_461) (fun _ _ => ⟨rfl, e88, (by decide : 3 + 0 ≤ _), (by decide : 55 + 0 ≤ _)⟩)
  dsimp only [Pt.U, Pt.locs, Pt.cells, Pt.slots] at X89 l89 y89 z89 st89 hQ89
  replace y89 : k89 = 3 := y89
  replace z89 : n89 = 55 := z89
  subst y89 z89
  obtain ⟨rfl, N89q, e89⟩ := hQ89
  have N89 : Fr n0 L89 := Eq.mpr (congrArg (Fr n0) l89) (Fr.app N87 N89q)
  refine Go.step st89 ?_
  show Go p e below _ (T89.setTop (mkF m 464 _ [(.int (f1 (0 : Int32) v42 gs)), (.int (0 : Int32)), (.ref b88)]))
  obtain ⟨cl90, Ar90, in90, -⟩ := A_b88_88e.hin (j := (0 : Int32)) (by decide) (by decide)
  obtain ⟨T90, h90, X90, e90, W90, st90⟩ := stB X89 hx hZ e89 Ar90 in90 (g := (mkF m 464 #[.val (.long q1), .second, .val (.int p2), .val (.int p3), .val (.ref b4), .val (.int v24), .val (.int v26), .val (.int v29), .val (.int v31), .val (.int v32), .val (.int v34), .val (.int v36), .val (.int v37), .val (.int v38), .val (.int v39), .val (.long v40), .second, .val (.long v42), .second, .val (.int v45), .val (.int v50), .val (.int v65), .val (.int v69), .val (.ref b71), .val (.ref b88), .unset, .unset, .unset, .unset] [(.int (f1 (0 : Int32) v42 gs)), (.int (0 : Int32)), (.ref b88)])) rfl rfl (hb hby at_464)
  refine Go.step st90 ?_
  have N90 := Fr.snoc X90 N89 g_b88
  have A_b4_90 := A_b4_88.other W90 ne_b4_b88
  have A_b71_90 := A_b71_88.other W90 ne_b71_b88
  have Z90 := Nat.le_trans Z88 (Keep.of_wr W90).1
  have KK90 : Keep h0 h90 [] := KK88.wr W90 (Or.inr sz_b88)
  have A_b88_90 : Ary Z h90 b88 .byte 26 (fun i => .int ((tK v42 gs 1) i)) := by exact (A_b88_88e.setI W90 (by decide)).congr fun i _ => congrArg Value.int (tK_S _ _ _ (by decide) i)
  show Go p e below _ (T90.setTop (mkF m 465 _ []))
  refine gB (q := 467) X90 hx (hb hby at_465) rfl rfl rfl ?_
  refine gC (q := 468) (v := 1) X90 hx (hb hby at_467) rfl rfl ?_
  refine gC (q := 469) (v := 1) X90 hx (hb hby at_468) rfl rfl ?_
  refine gB (q := 471) X90 hx (hb hby at_469) rfl rfl rfl ?_
  refine Go.step (fun t k => XS.lload X90.here hx rfl (hb hby at_471) rfl k) ?_
  show Go p e below _ (T90.setTop (mkF m 473 _ [(.long v42), (.ref b71), (.int (1 : Int32)), (.int (1 : Int32)), (.ref b88)]))
  refine gB (q := 475) X90 hx (hb hby at_473) rfl rfl rfl ?_
  obtain ⟨_, _, ⟨T91, L91, k91, n91⟩, -, X91, ⟨Lc91, hQ91, l91, y91, z91⟩, st91⟩ := Jvm.LawKit.callS X90 hx (y := (⟨"com/example/biller/biller/files/PlainValueReadPinLaw", "at", "(I[IJ[J)B"⟩ : MethodName)) hown (mvT hZ (hw _ (List.mem_of_getElem? (i := 22) rfl))) (mvT hZ (hw _ (List.mem_of_getElem? (i := 23) rfl))) (mvT hZ (hw _ (List.mem_of_getElem? (i := 24) rfl))) (mvT hZ (hw _ (List.mem_of_getElem? (i := 25) rfl))) (by decide) (backOf (W := 2) (rm1 l Z a0 hw [] (1 : Int32) b71 v42 b4 gs h90 n0 Z90 (hW : AtW gs) A_b71_90 A_b4_90) hZ (hw _ (List.mem_of_getElem? (i := 25) rfl)) (hw _ (List.mem_of_getElem? (i := 24) rfl)) (by decide) (by decide)) (g := (mkF m 475 #[.val (.long q1), .second, .val (.int p2), .val (.int p3), .val (.ref b4), .val (.int v24), .val (.int v26), .val (.int v29), .val (.int v31), .val (.int v32), .val (.int v34), .val (.int v36), .val (.int v37), .val (.int v38), .val (.int v39), .val (.long v40), .second, .val (.long v42), .second, .val (.int v45), .val (.int v50), .val (.int v65), .val (.int v69), .val (.ref b71), .val (.ref b88), .unset, .unset, .unset, .unset] [(.ref b4), (.long v42), (.ref b71), (.int (1 : Int32)), (.int (1 : Int32)), (.ref b88)])) rfl (by rw [hml]; rfl) (argsL := [(.int (1 : Int32)), (.ref b71), (.long v42), (.ref b4)]) (rest := [(.int (1 : Int32)), (.ref b88)]) (lenOf pd_0 rfl) rfl (by show 2 * 0 + _ ≤ _; exact Nat.le_of_eq rfl) (hb hby at_475) (fun _ _ => ⟨rfl, e90, (by decide : 3 + 0 ≤ _), (by decide : 55 + 0 ≤ _)⟩)
  dsimp only [Pt.U, Pt.locs, Pt.cells, Pt.slots] at X91 l91 y91 z91 st91 hQ91
  replace y91 : k91 = 3 := y91
  replace z91 : n91 = 55 := z91
  subst y91 z91
  obtain ⟨rfl, N91q, e91⟩ := hQ91
  have N91 : Fr n0 L91 := Eq.mpr (congrArg (Fr n0) l91) (Fr.app N90 N91q)
  refine Go.step st91 ?_
  show Go p e below _ (T91.setTop (mkF m 478 _ [(.int (f1 (1 : Int32) v42 gs)), (.int (1 : Int32)), (.ref b88)]))
  obtain ⟨cl92, Ar92, in92, -⟩ := A_b88_90.hin (j := (1 : Int32)) (by decide) (by decide)
  obtain ⟨T92, h92, X92, e92, W92, st92⟩ := stB X91 hx hZ e91 Ar92 in92 (g := (mkF m 478 #[.val (.long q1), .second, .val (.int p2), .val (.int p3), .val (.ref b4), .val (.int v24), .val (.int v26), .val (.int v29), .val (.int v31), .val (.int v32), .val (.int v34), .val (.int v36), .val (.int v37), .val (.int v38), .val (.int v39), .val (.long v40), .second, .val (.long v42), .second, .val (.int v45), .val (.int v50), .val (.int v65), .val (.int v69), .val (.ref b71), .val (.ref b88), .unset, .unset, .unset, .unset] [(.int (f1 (1 : Int32) v42 gs)), (.int (1 : Int32)), (.ref b88)])) rfl rfl (hb hby at_478)
  refine Go.step st92 ?_
  have N92 := Fr.snoc X92 N91 g_b88
  have A_b4_92 := A_b4_90.other W92 ne_b4_b88
  have A_b71_92 := A_b71_90.other W92 ne_b71_b88
  have Z92 := Nat.le_trans Z90 (Keep.of_wr W92).1
  have KK92 : Keep h0 h92 [] := KK90.wr W92 (Or.inr sz_b88)
  have A_b88_92 : Ary Z h92 b88 .byte 26 (fun i => .int ((tK v42 gs 2) i)) := by exact (A_b88_90.setI W92 (by decide)).congr fun i _ => congrArg Value.int (tK_S _ _ _ (by decide) i)
  show Go p e below _ (T92.setTop (mkF m 479 _ []))
  refine gB (q := 481) X92 hx (hb hby at_479) rfl rfl rfl ?_
  refine gC (q := 482) (v := 2) X92 hx (hb hby at_481) rfl rfl ?_
  refine gC (q := 483) (v := 2) X92 hx (hb hby at_482) rfl rfl ?_
  refine gB (q := 485) X92 hx (hb hby at_483) rfl rfl rfl ?_
  refine Go.step (fun t k => XS.lload X92.here hx rfl (hb hby at_485) rfl k) ?_
  show Go p e below _ (T92.setTop (mkF m 487 _ [(.long v42), (.ref b71), (.int (2 : Int32)), (.int (2 : Int32)), (.ref b88)]))
  refine gB (q := 489) X92 hx (hb hby at_487) rfl rfl rfl ?_
  obtain ⟨_, _, ⟨T93, L93, k93, n93⟩, -, X93, ⟨Lc93, hQ93, l93, y93, z93⟩, st93⟩ := Jvm.LawKit.callS X92 hx (y := (⟨"com/example/biller/biller/files/PlainValueReadPinLaw", "at", "(I[IJ[J)B"⟩ : MethodName)) hown (mvT hZ (hw _ (List.mem_of_getElem? (i := 22) rfl))) (mvT hZ (hw _ (List.mem_of_getElem? (i := 23) rfl))) (mvT hZ (hw _ (List.mem_of_getElem? (i := 24) rfl))) (mvT hZ (hw _ (List.mem_of_getElem? (i := 25) rfl))) (by decide) (backOf (W := 2) (rm1 l Z a0 hw [] (2 : Int32) b71 v42 b4 gs h92 n0 Z92 (hW : AtW gs) A_b71_92 A_b4_92) hZ (hw _ (List.mem_of_getElem? (i := 25) rfl)) (hw _ (List.mem_of_getElem? (i := 24) rfl)) (by decide) (by decide)) (g := (mkF m 489 #[.val (.long q1), .second, .val (.int p2), .val (.int p3), .val (.ref b4), .val (.int v24), .val (.int v26), .val (.int v29), .val (.int v31), .val (.int v32), .val (.int v34), .val (.int v36), .val (.int v37), .val (.int v38), .val (.int v39), .val (.long v40), .second, .val (.long v42), .second, .val (.int v45), .val (.int v50), .val (.int v65), .val (.int v69), .val (.ref b71), .val (.ref b88), .unset, .unset, .unset, .unset] [(.ref b4), (.long v42), (.ref b71), (.int (2 : Int32)), (.int (2 : Int32)), (.ref b88)])) rfl (by rw [hml]; rfl) (argsL := [(.int (2 : Int32)), (.ref b71), (.long v42), (.ref b4)]) (rest := [(.int (2 : Int32)), (.ref b88)]) (lenOf pd_0 rfl) rfl (by show 2 * 0 + _ ≤ _; exact Nat.le_of_eq rfl) (hb hby at_489) (fun _ _ => ⟨rfl, e92, (by decide : 3 + 0 ≤ _), (by decide : 55 + 0 ≤ _)⟩)
  dsimp only [Pt.U, Pt.locs, Pt.cells, Pt.slots] at X93 l93 y93 z93 st93 hQ93
  replace y93 : k93 = 3 := y93
  replace z93 : n93 = 55 := z93
  subst y93 z93
  obtain ⟨rfl, N93q, e93⟩ := hQ93
  have N93 : Fr n0 L93 := Eq.mpr (congrArg (Fr n0) l93) (Fr.app N92 N93q)
  refine Go.step st93 ?_
  show Go p e below _ (T93.setTop (mkF m 492 _ [(.int (f1 (2 : Int32) v42 gs)), (.int (2 : Int32)), (.ref b88)]))
  obtain ⟨cl94, Ar94, in94, -⟩ := A_b88_92.hin (j := (2 : Int32)) (by decide) (by decide)
  obtain ⟨T94, h94, X94, e94, W94, st94⟩ := stB X93 hx hZ e93 Ar94 in94 (g := (mkF m 492 #[.val (.long q1), .second, .val (.int p2), .val (.int p3), .val (.ref b4), .val (.int v24), .val (.int v26), .val (.int v29), .val (.int v31), .val (.int v32), .val (.int v34), .val (.int v36), .val (.int v37), .val (.int v38), .val (.int v39), .val (.long v40), .second, .val (.long v42), .second, .val (.int v45), .val (.int v50), .val (.int v65), .val (.int v69), .val (.ref b71), .val (.ref b88), .unset, .unset, .unset, .unset] [(.int (f1 (2 : Int32) v42 gs)), (.int (2 : Int32)), (.ref b88)])) rfl rfl (hb hby at_492)
  refine Go.step st94 ?_
  have N94 := Fr.snoc X94 N93 g_b88
  have A_b4_94 := A_b4_92.other W94 ne_b4_b88
  have A_b71_94 := A_b71_92.other W94 ne_b71_b88
  have Z94 := Nat.le_trans Z92 (Keep.of_wr W94).1
  have KK94 : Keep h0 h94 [] := KK92.wr W94 (Or.inr sz_b88)
  have A_b88_94 : Ary Z h94 b88 .byte 26 (fun i => .int ((tK v42 gs 3) i)) := by exact (A_b88_92.setI W94 (by decide)).congr fun i _ => congrArg Value.int (tK_S _ _ _ (by decide) i)
  show Go p e below _ (T94.setTop (mkF m 493 _ []))
  refine gB (q := 495) X94 hx (hb hby at_493) rfl rfl rfl ?_
  refine gC (q := 496) (v := 3) X94 hx (hb hby at_495) rfl rfl ?_
  refine gC (q := 497) (v := 3) X94 hx (hb hby at_496) rfl rfl ?_
  refine gB (q := 499) X94 hx (hb hby at_497) rfl rfl rfl ?_
  refine Go.step (fun t k => XS.lload X94.here hx rfl (hb hby at_499) rfl k) ?_
  show Go p e below _ (T94.setTop (mkF m 501 _ [(.long v42), (.ref b71), (.int (3 : Int32)), (.int (3 : Int32)), (.ref b88)]))
  refine gB (q := 503) X94 hx (hb hby at_501) rfl rfl rfl ?_
  obtain ⟨_, _, ⟨T95, L95, k95, n95⟩, -, X95, ⟨Lc95, hQ95, l95, y95, z95⟩, st95⟩ := Jvm.LawKit.callS X94 hx (y := (⟨"com/example/biller/biller/files/PlainValueReadPinLaw", "at", "(I[IJ[J)B"⟩ : MethodName)) hown (mvT hZ (hw _ (List.mem_of_getElem? (i := 22) rfl))) (mvT hZ (hw _ (List.mem_of_getElem? (i := 23) rfl))) (mvT hZ (hw _ (List.mem_of_getElem? (i := 24) rfl))) (mvT hZ (hw _ (List.mem_of_getElem? (i := 25) rfl))) (by decide) (backOf (W := 2) (rm1 l Z a0 hw [] (3 : Int32) b71 v42 b4 gs h94 n0 Z94 (hW : AtW gs) A_b71_94 A_b4_94) hZ (hw _ (List.mem_of_getElem? (i := 25) rfl)) (hw _ (List.mem_of_getElem? (i := 24) rfl)) (by decide) (by decide)) (g := (mkF m 503 #[.val (.long q1), .second, .val (.int p2), .val (.int p3), .val (.ref b4), .val (.int v24), .val (.int v26), .val (.int v29), .val (.int v31), .val (.int v32), .val (.int v34), .val (.int v36), .val (.int v37), .val (.int v38), .val (.int v39), .val (.long v40), .second, .val (.long v42), .second, .val (.int v45), .val (.int v50), .val (.int v65), .val (.int v69), .val (.ref b71), .val (.ref b88), .unset, .unset, .unset, .unset] [(.ref b4), (.long v42), (.ref b71), (.int (3 : Int32)), (.int (3 : Int32)), (.ref b88)])) rfl (by rw [hml]; rfl) (argsL := [(.int (3 : Int32)), (.ref b71), (.long v42), (.ref b4)]) (rest := [(.int (3 : Int32)), (.ref b88)]) (lenOf pd_0 rfl) rfl (by show 2 * 0 + _ ≤ _; exact Nat.le_of_eq rfl) (hb hby at_503) (fun _ _ => ⟨rfl, e94, (by decide : 3 + 0 ≤ _), (by decide : 55 + 0 ≤ _)⟩)
  dsimp only [Pt.U, Pt.locs, Pt.cells, Pt.slots] at X95 l95 y95 z95 st95 hQ95
  replace y95 : k95 = 3 := y95
  replace z95 : n95 = 55 := z95
  subst y95 z95
  obtain ⟨rfl, N95q, e95⟩ := hQ95
  have N95 : Fr n0 L95 := Eq.mpr (congrArg (Fr n0) l95) (Fr.app N94 N95q)
  refine Go.step st95 ?_
  show Go p e below _ (T95.setTop (mkF m 506 _ [(.int (f1 (3 : Int32) v42 gs)), (.int (3 : Int32)), (.ref b88)]))
  obtain ⟨cl96, Ar96, in96, -⟩ := A_b88_94.hin (j := (3 : Int32)) (by decide) (by decide)
  obtain ⟨T96, h96, X96, e96, W96, st96⟩ := stB X95 hx hZ e95 Ar96 in96 (g := (mkF m 506 #[.val (.long q1), .second, .val (.int p2), .val (.int p3), .val (.ref b4), .val (.int v24), .val (.int v26), .val (.int v29), .val (.int v31), .val (.int v32), .val (.int v34), .val (.int v36), .val (.int v37), .val (.int v38), .val (.int v39), .val (.long v40), .second, .val (.long v42), .second, .val (.int v45), .val (.int v50), .val (.int v65), .val (.int v69), .val (.ref b71), .val (.ref b88), .unset, .unset, .unset, .unset] [(.int (f1 (3 : Int32) v42 gs)), (.int (3 : Int32)), (.ref b88)])) rfl rfl (hb hby at_506)
  refine Go.step st96 ?_
  have N96 := Fr.snoc X96 N95 g_b88
  have A_b4_96 := A_b4_94.other W96 ne_b4_b88
  have A_b71_96 := A_b71_94.other W96 ne_b71_b88
  have Z96 := Nat.le_trans Z94 (Keep.of_wr W96).1
  have KK96 : Keep h0 h96 [] := KK94.wr W96 (Or.inr sz_b88)
  have A_b88_96 : Ary Z h96 b88 .byte 26 (fun i => .int ((tK v42 gs 4) i)) := by exact (A_b88_94.setI W96 (by decide)).congr fun i _ => congrArg Value.int (tK_S _ _ _ (by decide) i)
  show Go p e below _ (T96.setTop (mkF m 507 _ []))
  refine gB (q := 509) X96 hx (hb hby at_507) rfl rfl rfl ?_
  refine gC (q := 510) (v := 4) X96 hx (hb hby at_509) rfl rfl ?_
  refine gC (q := 511) (v := 4) X96 hx (hb hby at_510) rfl rfl ?_
  refine gB (q := 513) X96 hx (hb hby at_511) rfl rfl rfl ?_
  refine Go.step (fun t k => XS.lload X96.here hx rfl (hb hby at_513) rfl k) ?_
  show Go p e below _ (T96.setTop (mkF m 515 _ [(.long v42), (.ref b71), (.int (4 : Int32)), (.int (4 : Int32)), (.ref b88)]))
  refine gB (q := 517) X96 hx (hb hby at_515) rfl rfl rfl ?_
  obtain ⟨_, _, ⟨T97, L97, k97, n97⟩, -, X97, ⟨Lc97, hQ97, l97, y97, z97⟩, st97⟩ := Jvm.LawKit.callS X96 hx (y := (⟨"com/example/biller/biller/files/PlainValueReadPinLaw", "at", "(I[IJ[J)B"⟩ : MethodName)) hown (mvT hZ (hw _ (List.mem_of_getElem? (i := 22) rfl))) (mvT hZ (hw _ (List.mem_of_getElem? (i := 23) rfl))) (mvT hZ (hw _ (List.mem_of_getElem? (i := 24) rfl))) (mvT hZ (hw _ (List.mem_of_getElem? (i := 25) rfl))) (by decide) (backOf (W := 2) (rm1 l Z a0 hw [] (4 : Int32) b71 v42 b4 gs h96 n0 Z96 (hW : AtW gs) A_b71_96 A_b4_96) hZ (hw _ (List.mem_of_getElem? (i := 25) rfl)) (hw _ (List.mem_of_getElem? (i := 24) rfl)) (by decide) (by decide)) (g := (mkF m 517 #[.val (.long q1), .second, .val (.int p2), .val (.int p3), .val (.ref b4), .val (.int v24), .val (.int v26), .val (.int v29), .val (.int v31), .val (.int v32), .val (.int v34), .val (.int v36), .val (.int v37), .val (.int v38), .val (.int v39), .val (.long v40), .second, .val (.long v42), .second, .val (.int v45), .val (.int v50), .val (.int v65), .val (.int v69), .val (.ref b71), .val (.ref b88), .unset, .unset, .unset, .unset] [(.ref b4), (.long v42), (.ref b71), (.int (4 : Int32)), (.int (4 : Int32)), (.ref b88)])) rfl (by rw [hml]; rfl) (argsL := [(.int (4 : Int32)), (.ref b71), (.long v42), (.ref b4)]) (rest := [(.int (4 : Int32)), (.ref b88)]) (lenOf pd_0 rfl) rfl (by show 2 * 0 + _ ≤ _; exact Nat.le_of_eq rfl) (hb hby at_517) (fun _ _ => ⟨rfl, e96, (by decide : 3 + 0 ≤ _), (by decide : 55 + 0 ≤ _)⟩)
  dsimp only [Pt.U, Pt.locs, Pt.cells, Pt.slots] at X97 l97 y97 z97 st97 hQ97
  replace y97 : k97 = 3 := y97
  replace z97 : n97 = 55 := z97
  subst y97 z97
  obtain ⟨rfl, N97q, e97⟩ := hQ97
  have N97 : Fr n0 L97 := Eq.mpr (congrArg (Fr n0) l97) (Fr.app N96 N97q)
  refine Go.step st97 ?_
  show Go p e below _ (T97.setTop (mkF m 520 _ [(.int (f1 (4 : Int32) v42 gs)), (.int (4 : Int32)), (.ref b88)]))
  obtain ⟨cl98, Ar98, in98, -⟩ := A_b88_96.hin (j := (4 : Int32)) (by decide) (by decide)
  obtain ⟨T98, h98, X98, e98, W98, st98⟩ := stB X97 hx hZ e97 Ar98 in98 (g := (mkF m 520 #[.val (.long q1), .second, .val (.int p2), .val (.int p3), .val (.ref b4), .val (.int v24), .val (.int v26), .val (.int v29), .val (.int v31), .val (.int v32), .val (.int v34), .val (.int v36), .val (.int v37), .val (.int v38), .val (.int v39), .val (.long v40), .second, .val (.long v42), .second, .val (.int v45), .val (.int v50), .val (.int v65), .val (.int v69), .val (.ref b71), .val (.ref b88), .unset, .unset, .unset, .unset] [(.int (f1 (4 : Int32) v42 gs)), (.int (4 : Int32)), (.ref b88)])) rfl rfl (hb hby at_520)
  refine Go.step st98 ?_
  have N98 := Fr.snoc X98 N97 g_b88
  have A_b4_98 := A_b4_96.other W98 ne_b4_b88
  have A_b71_98 := A_b71_96.other W98 ne_b71_b88
  have Z98 := Nat.le_trans Z96 (Keep.of_wr W98).1
  have KK98 : Keep h0 h98 [] := KK96.wr W98 (Or.inr sz_b88)
  have A_b88_98 : Ary Z h98 b88 .byte 26 (fun i => .int ((tK v42 gs 5) i)) := by exact (A_b88_96.setI W98 (by decide)).congr fun i _ => congrArg Value.int (tK_S _ _ _ (by decide) i)
  show Go p e below _ (T98.setTop (mkF m 521 _ []))
  refine gB (q := 523) X98 hx (hb hby at_521) rfl rfl rfl ?_
  refine gC (q := 524) (v := 5) X98 hx (hb hby at_523) rfl rfl ?_
  refine gC (q := 525) (v := 5) X98 hx (hb hby at_524) rfl rfl ?_
  refine gB (q := 527) X98 hx (hb hby at_525) rfl rfl rfl ?_
  refine Go.step (fun t k => XS.lload X98.here hx rfl (hb hby at_527) rfl k) ?_
  show Go p e below _ (T98.setTop (mkF m 529 _ [(.long v42), (.ref b71), (.int (5 : Int32)), (.int (5 : Int32)), (.ref b88)]))
  refine gB (q := 531) X98 hx (hb hby at_529) rfl rfl rfl ?_
  obtain ⟨_, _, ⟨T99, L99, k99, n99⟩, -, X99, ⟨Lc99, hQ99, l99, y99, z99⟩, st99⟩ := Jvm.LawKit.callS X98 hx (y := (⟨"com/example/biller/biller/files/PlainValueReadPinLaw", "at", "(I[IJ[J)B"⟩ : MethodName)) hown (mvT hZ (hw _ (List.mem_of_getElem? (i := 22) rfl))) (mvT hZ (hw _ (List.mem_of_getElem? (i := 23) rfl))) (mvT hZ (hw _ (List.mem_of_getElem? (i := 24) rfl))) (mvT hZ (hw _ (List.mem_of_getElem? (i := 25) rfl))) (by decide) (backOf (W := 2) (rm1 l Z a0 hw [] (5 : Int32) b71 v42 b4 gs h98 n0 Z98 (hW : AtW gs) A_b71_98 A_b4_98) hZ (hw _ (List.mem_of_getElem? (i := 25) rfl)) (hw _ (List.mem_of_getElem? (i := 24) rfl)) (by decide) (by decide)) (g := (mkF m 531 #[.val (.long q1), .second, .val (.int p2), .val (.int p3), .val (.ref b4), .val (.int v24), .val (.int v26), .val (.int v29), .val (.int v31), .val (.int v32), .val (.int v34), .val (.int v36), .val (.int v37), .val (.int v38), .val (.int v39), .val (.long v40), .second, .val (.long v42), .second, .val (.int v45), .val (.int v50), .val (.int v65), .val (.int v69), .val (.ref b71), .val (.ref b88), .unset, .unset, .unset, .unset] [(.ref b4), (.long v42), (.ref b71), (.int (5 : Int32)), (.int (5 : Int32)), (.ref b88)])) rfl (by rw [hml]; rfl) (argsL := [(.int (5 : Int32)), (.ref b71), (.long v42), (.ref b4)]) (rest := [(.int (5 : Int32)), (.ref b88)]) (lenOf pd_0 rfl) rfl (by show 2 * 0 + _ ≤ _; exact Nat.le_of_eq rfl) (hb hby at_531) (fun _ _ => ⟨rfl, e98, (by decide : 3 + 0 ≤ _), (by decide : 55 + 0 ≤ _)⟩)
  dsimp only [Pt.U, Pt.locs, Pt.cells, Pt.slots] at X99 l99 y99 z99 st99 hQ99
  replace y99 : k99 = 3 := y99
  replace z99 : n99 = 55 := z99
  subst y99 z99
  obtain ⟨rfl, N99q, e99⟩ := hQ99
  have N99 : Fr n0 L99 := Eq.mpr (congrArg (Fr n0) l99) (Fr.app N98 N99q)
  refine Go.step st99 ?_
  show Go p e below _ (T99.setTop (mkF m 534 _ [(.int (f1 (5 : Int32) v42 gs)), (.int (5 : Int32)), (.ref b88)]))
  obtain ⟨cl100, Ar100, in100, -⟩ := A_b88_98.hin (j := (5 : Int32)) (by decide) (by decide)
  obtain ⟨T100, h100, X100, e100, W100, st100⟩ := stB X99 hx hZ e99 Ar100 in100 (g := (mkF m 534 #[.val (.long q1), .second, .val (.int p2), .val (.int p3), .val (.ref b4), .val (.int v24), .val (.int v26), .val (.int v29), .val (.int v31), .val (.int v32), .val (.int v34), .val (.int v36), .val (.int v37), .val (.int v38), .val (.int v39), .val (.long v40), .second, .val (.long v42), .second, .val (.int v45), .val (.int v50), .val (.int v65), .val (.int v69), .val (.ref b71), .val (.ref b88), .unset, .unset, .unset, .unset] [(.int (f1 (5 : Int32) v42 gs)), (.int (5 : Int32)), (.ref b88)])) rfl rfl (hb hby at_534)
  refine Go.step st100 ?_
  have N100 := Fr.snoc X100 N99 g_b88
  have A_b4_100 := A_b4_98.other W100 ne_b4_b88
  have A_b71_100 := A_b71_98.other W100 ne_b71_b88
  have Z100 := Nat.le_trans Z98 (Keep.of_wr W100).1
  have KK100 : Keep h0 h100 [] := KK98.wr W100 (Or.inr sz_b88)
  have A_b88_100 : Ary Z h100 b88 .byte 26 (fun i => .int ((tK v42 gs 6) i)) := by exact (A_b88_98.setI W100 (by decide)).congr fun i _ => congrArg Value.int (tK_S _ _ _ (by decide) i)
  show Go p e below _ (T100.setTop (mkF m 535 _ []))
  refine gB (q := 537) X100 hx (hb hby at_535) rfl rfl rfl ?_
  refine Go.step (fun t k => XS.bipush X100.here hx rfl (hb hby at_537)  k) ?_
  show Go p e below _ (T100.setTop (mkF m 539 _ [(.int (6 : Int32)), (.ref b88)]))
  refine Go.step (fun t k => XS.bipush X100.here hx rfl (hb hby at_539)  k) ?_
  show Go p e below _ (T100.setTop (mkF m 541 _ [(.int (6 : Int32)), (.int (6 : Int32)), (.ref b88)]))
  refine gB (q := 543) X100 hx (hb hby at_541) rfl rfl rfl ?_
  refine Go.step (fun t k => XS.lload X100.here hx rfl (hb hby at_543) rfl k) ?_
  show Go p e below _ (T100.setTop (mkF m 545 _ [(.long v42), (.ref b71), (.int (6 : Int32)), (.int (6 : Int32)), (.ref b88)]))
  refine gB (q := 547) X100 hx (hb hby at_545) rfl rfl rfl ?_
  obtain ⟨_, _, ⟨T101, L101, k101, n101⟩, -, X101, ⟨Lc101, hQ101, l101, y101, z101⟩, st101⟩ := Jvm.LawKit.callS X100 hx (y := (⟨"com/example/biller/biller/files/PlainValueReadPinLaw", "at", "(I[IJ[J)B"⟩ : MethodName)) hown (mvT hZ (hw _ (List.mem_of_getElem? (i := 22) rfl))) (mvT hZ (hw _ (List.mem_of_getElem? (i := 23) rfl))) (mvT hZ (hw _ (List.mem_of_getElem? (i := 24) rfl))) (mvT hZ (hw _ (List.mem_of_getElem? (i := 25) rfl))) (by decide) (backOf (W := 2) (rm1 l Z a0 hw [] (6 : Int32) b71 v42 b4 gs h100 n0 Z100 (hW : AtW gs) A_b71_100 A_b4_100) hZ (hw _ (List.mem_of_getElem? (i := 25) rfl)) (hw _ (List.mem_of_getElem? (i := 24) rfl)) (by decide) (by decide)) (g := (mkF m 547 #[.val (.long q1), .second, .val (.int p2), .val (.int p3), .val (.ref b4), .val (.int v24), .val (.int v26), .val (.int v29), .val (.int v31), .val (.int v32), .val (.int v34), .val (.int v36), .val (.int v37), .val (.int v38), .val (.int v39), .val (.long v40), .second, .val (.long v42), .second, .val (.int v45), .val (.int v50), .val (.int v65), .val (.int v69), .val (.ref b71), .val (.ref b88), .unset, .unset, .unset, .unset] [(.ref b4), (.long v42), (.ref b71), (.int (6 : Int32)), (.int (6 : Int32)), (.ref b88)])) rfl (by rw [hml]; rfl) (argsL := [(.int (6 : Int32)), (.ref b71), (.long v42), (.ref b4)]) (rest := [(.int (6 : Int32)), (.ref b88)]) (lenOf pd_0 rfl) rfl (by show 2 * 0 + _ ≤ _; exact Nat.le_of_eq rfl) (hb hby at_547) (fun _ _ => ⟨rfl, e100, (by decide : 3 + 0 ≤ _), (by decide : 55 + 0 ≤ _)⟩)
  dsimp only [Pt.U, Pt.locs, Pt.cells, Pt.slots] at X101 l101 y101 z101 st101 hQ101
  replace y101 : k101 = 3 := y101
  replace z101 : n101 = 55 := z101
  subst y101 z101
  obtain ⟨rfl, N101q, e101⟩ := hQ101
  have N101 : Fr n0 L101 := Eq.mpr (congrArg (Fr n0) l101) (Fr.app N100 N101q)
  refine Go.step st101 ?_
  show Go p e below _ (T101.setTop (mkF m 550 _ [(.int (f1 (6 : Int32) v42 gs)), (.int (6 : Int32)), (.ref b88)]))
  obtain ⟨cl102, Ar102, in102, -⟩ := A_b88_100.hin (j := (6 : Int32)) (by decide) (by decide)
  obtain ⟨T102, h102, X102, e102, W102, st102⟩ := stB X101 hx hZ e101 Ar102 in102 (g := (mkF m 550 #[.val (.long q1), .second, .val (.int p2), .val (.int p3), .val (.ref b4), .val (.int v24), .val (.int v26), .val (.int v29), .val (.int v31), .val (.int v32), .val (.int v34), .val (.int v36), .val (.int v37), .val (.int v38), .val (.int v39), .val (.long v40), .second, .val (.long v42), .second, .val (.int v45), .val (.int v50), .val (.int v65), .val (.int v69), .val (.ref b71), .val (.ref b88), .unset, .unset, .unset, .unset] [(.int (f1 (6 : Int32) v42 gs)), (.int (6 : Int32)), (.ref b88)])) rfl rfl (hb hby at_550)
  refine Go.step st102 ?_
  have N102 := Fr.snoc X102 N101 g_b88
  have A_b4_102 := A_b4_100.other W102 ne_b4_b88
  have A_b71_102 := A_b71_100.other W102 ne_b71_b88
  have Z102 := Nat.le_trans Z100 (Keep.of_wr W102).1
  have KK102 : Keep h0 h102 [] := KK100.wr W102 (Or.inr sz_b88)
  have A_b88_102 : Ary Z h102 b88 .byte 26 (fun i => .int ((tK v42 gs 7) i)) := by exact (A_b88_100.setI W102 (by decide)).congr fun i _ => congrArg Value.int (tK_S _ _ _ (by decide) i)
  show Go p e below _ (T102.setTop (mkF m 551 _ []))
  refine gB (q := 553) X102 hx (hb hby at_551) rfl rfl rfl ?_
  refine Go.step (fun t k => XS.bipush X102.here hx rfl (hb hby at_553)  k) ?_
  show Go p e below _ (T102.setTop (mkF m 555 _ [(.int (7 : Int32)), (.ref b88)]))
  refine Go.step (fun t k => XS.bipush X102.here hx rfl (hb hby at_555)  k) ?_
  show Go p e below _ (T102.setTop (mkF m 557 _ [(.int (7 : Int32)), (.int (7 : Int32)), (.ref b88)]))
  refine gB (q := 559) X102 hx (hb hby at_557) rfl rfl rfl ?_
  refine Go.step (fun t k => XS.lload X102.here hx rfl (hb hby at_559) rfl k) ?_
  show Go p e below _ (T102.setTop (mkF m 561 _ [(.long v42), (.ref b71), (.int (7 : Int32)), (.int (7 : Int32)), (.ref b88)]))
  refine gB (q := 563) X102 hx (hb hby at_561) rfl rfl rfl ?_
  obtain ⟨_, _, ⟨T103, L103, k103, n103⟩, -, X103, ⟨Lc103, hQ103, l103, y103, z103⟩, st103⟩ := Jvm.LawKit.callS X102 hx (y := (⟨"com/example/biller/biller/files/PlainValueReadPinLaw", "at", "(I[IJ[J)B"⟩ : MethodName)) hown (mvT hZ (hw _ (List.mem_of_getElem? (i := 22) rfl))) (mvT hZ (hw _ (List.mem_of_getElem? (i := 23) rfl))) (mvT hZ (hw _ (List.mem_of_getElem? (i := 24) rfl))) (mvT hZ (hw _ (List.mem_of_getElem? (i := 25) rfl))) (by decide) (backOf (W := 2) (rm1 l Z a0 hw [] (7 : Int32) b71 v42 b4 gs h102 n0 Z102 (hW : AtW gs) A_b71_102 A_b4_102) hZ (hw _ (List.mem_of_getElem? (i := 25) rfl)) (hw _ (List.mem_of_getElem? (i := 24) rfl)) (by decide) (by decide)) (g := (mkF m 563 #[.val (.long q1), .second, .val (.int p2), .val (.int p3), .val (.ref b4), .val (.int v24), .val (.int v26), .val (.int v29), .val (.int v31), .val (.int v32), .val (.int v34), .val (.int v36), .val (.int v37), .val (.int v38), .val (.int v39), .val (.long v40), .second, .val (.long v42), .second, .val (.int v45), .val (.int v50), .val (.int v65), .val (.int v69), .val (.ref b71), .val (.ref b88), .unset, .unset, .unset, .unset] [(.ref b4), (.long v42), (.ref b71), (.int (7 : Int32)), (.int (7 : Int32)), (.ref b88)])) rfl (by rw [hml]; rfl) (argsL := [(.int (7 : Int32)), (.ref b71), (.long v42), (.ref b4)]) (rest := [(.int (7 : Int32)), (.ref b88)]) (lenOf pd_0 rfl) rfl (by show 2 * 0 + _ ≤ _; exact Nat.le_of_eq rfl) (hb hby at_563) (fun _ _ => ⟨rfl, e102, (by decide : 3 + 0 ≤ _), (by decide : 55 + 0 ≤ _)⟩)
  dsimp only [Pt.U, Pt.locs, Pt.cells, Pt.slots] at X103 l103 y103 z103 st103 hQ103
  replace y103 : k103 = 3 := y103
  replace z103 : n103 = 55 := z103
  subst y103 z103
  obtain ⟨rfl, N103q, e103⟩ := hQ103
  have N103 : Fr n0 L103 := Eq.mpr (congrArg (Fr n0) l103) (Fr.app N102 N103q)
  refine Go.step st103 ?_
  show Go p e below _ (T103.setTop (mkF m 566 _ [(.int (f1 (7 : Int32) v42 gs)), (.int (7 : Int32)), (.ref b88)]))
  obtain ⟨cl104, Ar104, in104, -⟩ := A_b88_102.hin (j := (7 : Int32)) (by decide) (by decide)
  obtain ⟨T104, h104, X104, e104, W104, st104⟩ := stB X103 hx hZ e103 Ar104 in104 (g := (mkF m 566 #[.val (.long q1), .second, .val (.int p2), .val (.int p3), .val (.ref b4), .val (.int v24), .val (.int v26), .val (.int v29), .val (.int v31), .val (.int v32), .val (.int v34), .val (.int v36), .val (.int v37), .val (.int v38), .val (.int v39), .val (.long v40), .second, .val (.long v42), .second, .val (.int v45), .val (.int v50), .val (.int v65), .val (.int v69), .val (.ref b71), .val (.ref b88), .unset, .unset, .unset, .unset] [(.int (f1 (7 : Int32) v42 gs)), (.int (7 : Int32)), (.ref b88)])) rfl rfl (hb hby at_566)
  refine Go.step st104 ?_
  have N104 := Fr.snoc X104 N103 g_b88
  have A_b4_104 := A_b4_102.other W104 ne_b4_b88
  have A_b71_104 := A_b71_102.other W104 ne_b71_b88
  have Z104 := Nat.le_trans Z102 (Keep.of_wr W104).1
  have KK104 : Keep h0 h104 [] := KK102.wr W104 (Or.inr sz_b88)
  have A_b88_104 : Ary Z h104 b88 .byte 26 (fun i => .int ((tK v42 gs 8) i)) := by exact (A_b88_102.setI W104 (by decide)).congr fun i _ => congrArg Value.int (tK_S _ _ _ (by decide) i)
  show Go p e below _ (T104.setTop (mkF m 567 _ []))
  refine gB (q := 569) X104 hx (hb hby at_567) rfl rfl rfl ?_
  refine Go.step (fun t k => XS.bipush X104.here hx rfl (hb hby at_569)  k) ?_
  show Go p e below _ (T104.setTop (mkF m 571 _ [(.int (8 : Int32)), (.ref b88)]))
  refine Go.step (fun t k => XS.bipush X104.here hx rfl (hb hby at_571)  k) ?_
  show Go p e below _ (T104.setTop (mkF m 573 _ [(.int (8 : Int32)), (.int (8 : Int32)), (.ref b88)]))
  refine gB (q := 575) X104 hx (hb hby at_573) rfl rfl rfl ?_
  refine Go.step (fun t k => XS.lload X104.here hx rfl (hb hby at_575) rfl k) ?_
  show Go p e below _ (T104.setTop (mkF m 577 _ [(.long v42), (.ref b71), (.int (8 : Int32)), (.int (8 : Int32)), (.ref b88)]))
  refine gB (q := 579) X104 hx (hb hby at_577) rfl rfl rfl ?_
  obtain ⟨_, _, ⟨T105, L105, k105, n105⟩, -, X105, ⟨Lc105, hQ105, l105, y105, z105⟩, st105⟩ := Jvm.LawKit.callS X104 hx (y := (⟨"com/example/biller/biller/files/PlainValueReadPinLaw", "at", "(I[IJ[J)B"⟩ : MethodName)) hown (mvT hZ (hw _ (List.mem_of_getElem? (i := 22) rfl))) (mvT hZ (hw _ (List.mem_of_getElem? (i := 23) rfl))) (mvT hZ (hw _ (List.mem_of_getElem? (i := 24) rfl))) (mvT hZ (hw _ (List.mem_of_getElem? (i := 25) rfl))) (by decide) (backOf (W := 2) (rm1 l Z a0 hw [] (8 : Int32) b71 v42 b4 gs h104 n0 Z104 (hW : AtW gs) A_b71_104 A_b4_104) hZ (hw _ (List.mem_of_getElem? (i := 25) rfl)) (hw _ (List.mem_of_getElem? (i := 24) rfl)) (by decide) (by decide)) (g := (mkF m 579 #[.val (.long q1), .second, .val (.int p2), .val (.int p3), .val (.ref b4), .val (.int v24), .val (.int v26), .val (.int v29), .val (.int v31), .val (.int v32), .val (.int v34), .val (.int v36), .val (.int v37), .val (.int v38), .val (.int v39), .val (.long v40), .second, .val (.long v42), .second, .val (.int v45), .val (.int v50), .val (.int v65), .val (.int v69), .val (.ref b71), .val (.ref b88), .unset, .unset, .unset, .unset] [(.ref b4), (.long v42), (.ref b71), (.int (8 : Int32)), (.int (8 : Int32)), (.ref b88)])) rfl (by rw [hml]; rfl) (argsL := [(.int (8 : Int32)), (.ref b71), (.long v42), (.ref b4)]) (rest := [(.int (8 : Int32)), (.ref b88)]) (lenOf pd_0 rfl) rfl (by show 2 * 0 + _ ≤ _; exact Nat.le_of_eq rfl) (hb hby at_579) (fun _ _ => ⟨rfl, e104, (by decide : 3 + 0 ≤ _), (by decide : 55 + 0 ≤ _)⟩)
  dsimp only [Pt.U, Pt.locs, Pt.cells, Pt.slots] at X105 l105 y105 z105 st105 hQ105
  replace y105 : k105 = 3 := y105
  replace z105 : n105 = 55 := z105
  subst y105 z105
  obtain ⟨rfl, N105q, e105⟩ := hQ105
  have N105 : Fr n0 L105 := Eq.mpr (congrArg (Fr n0) l105) (Fr.app N104 N105q)
  refine Go.step st105 ?_
  show Go p e below _ (T105.setTop (mkF m 582 _ [(.int (f1 (8 : Int32) v42 gs)), (.int (8 : Int32)), (.ref b88)]))
  obtain ⟨cl106, Ar106, in106, -⟩ := A_b88_104.hin (j := (8 : Int32)) (by decide) (by decide)
  obtain ⟨T106, h106, X106, e106, W106, st106⟩ := stB X105 hx hZ e105 Ar106 in106 (g := (mkF m 582 #[.val (.long q1), .second, .val (.int p2), .val (.int p3), .val (.ref b4), .val (.int v24), .val (.int v26), .val (.int v29), .val (.int v31), .val (.int v32), .val (.int v34), .val (.int v36), .val (.int v37), .val (.int v38), .val (.int v39), .val (.long v40), .second, .val (.long v42), .second, .val (.int v45), .val (.int v50), .val (.int v65), .val (.int v69), .val (.ref b71), .val (.ref b88), .unset, .unset, .unset, .unset] [(.int (f1 (8 : Int32) v42 gs)), (.int (8 : Int32)), (.ref b88)])) rfl rfl (hb hby at_582)
  refine Go.step st106 ?_
  have N106 := Fr.snoc X106 N105 g_b88
  have A_b4_106 := A_b4_104.other W106 ne_b4_b88
  have A_b71_106 := A_b71_104.other W106 ne_b71_b88
  have Z106 := Nat.le_trans Z104 (Keep.of_wr W106).1
  have KK106 : Keep h0 h106 [] := KK104.wr W106 (Or.inr sz_b88)
  have A_b88_106 : Ary Z h106 b88 .byte 26 (fun i => .int ((tK v42 gs 9) i)) := by exact (A_b88_104.setI W106 (by decide)).congr fun i _ => congrArg Value.int (tK_S _ _ _ (by decide) i)
  show Go p e below _ (T106.setTop (mkF m 583 _ []))
  refine gB (q := 585) X106 hx (hb hby at_583) rfl rfl rfl ?_
  refine Go.step (fun t k => XS.bipush X106.here hx rfl (hb hby at_585)  k) ?_
  show Go p e below _ (T106.setTop (mkF m 587 _ [(.int (9 : Int32)), (.ref b88)]))
  refine Go.step (fun t k => XS.bipush X106.here hx rfl (hb hby at_587)  k) ?_
  show Go p e below _ (T106.setTop (mkF m 589 _ [(.int (9 : Int32)), (.int (9 : Int32)), (.ref b88)]))
  refine gB (q := 591) X106 hx (hb hby at_589) rfl rfl rfl ?_
  refine Go.step (fun t k => XS.lload X106.here hx rfl (hb hby at_591) rfl k) ?_
  show Go p e below _ (T106.setTop (mkF m 593 _ [(.long v42), (.ref b71), (.int (9 : Int32)), (.int (9 : Int32)), (.ref b88)]))
  refine gB (q := 595) X106 hx (hb hby at_593) rfl rfl rfl ?_
  obtain ⟨_, _, ⟨T107, L107, k107, n107⟩, -, X107, ⟨Lc107, hQ107, l107, y107, z107⟩, st107⟩ := Jvm.LawKit.callS X106 hx (y := (⟨"com/example/biller/biller/files/PlainValueReadPinLaw", "at", "(I[IJ[J)B"⟩ : MethodName)) hown (mvT hZ (hw _ (List.mem_of_getElem? (i := 22) rfl))) (mvT hZ (hw _ (List.mem_of_getElem? (i := 23) rfl))) (mvT hZ (hw _ (List.mem_of_getElem? (i := 24) rfl))) (mvT hZ (hw _ (List.mem_of_getElem? (i := 25) rfl))) (by decide) (backOf (W := 2) (rm1 l Z a0 hw [] (9 : Int32) b71 v42 b4 gs h106 n0 Z106 (hW : AtW gs) A_b71_106 A_b4_106) hZ (hw _ (List.mem_of_getElem? (i := 25) rfl)) (hw _ (List.mem_of_getElem? (i := 24) rfl)) (by decide) (by decide)) (g := (mkF m 595 #[.val (.long q1), .second, .val (.int p2), .val (.int p3), .val (.ref b4), .val (.int v24), .val (.int v26), .val (.int v29), .val (.int v31), .val (.int v32), .val (.int v34), .val (.int v36), .val (.int v37), .val (.int v38), .val (.int v39), .val (.long v40), .second, .val (.long v42), .second, .val (.int v45), .val (.int v50), .val (.int v65), .val (.int v69), .val (.ref b71), .val (.ref b88), .unset, .unset, .unset, .unset] [(.ref b4), (.long v42), (.ref b71), (.int (9 : Int32)), (.int (9 : Int32)), (.ref b88)])) rfl (by rw [hml]; rfl) (argsL := [(.int (9 : Int32)), (.ref b71), (.long v42), (.ref b4)]) (rest := [(.int (9 : Int32)), (.ref b88)]) (lenOf pd_0 rfl) rfl (by show 2 * 0 + _ ≤ _; exact Nat.le_of_eq rfl) (hb hby at_595) (fun _ _ => ⟨rfl, e106, (by decide : 3 + 0 ≤ _), (by decide : 55 + 0 ≤ _)⟩)
  dsimp only [Pt.U, Pt.locs, Pt.cells, Pt.slots] at X107 l107 y107 z107 st107 hQ107
  replace y107 : k107 = 3 := y107
  replace z107 : n107 = 55 := z107
  subst y107 z107
  obtain ⟨rfl, N107q, e107⟩ := hQ107
  have N107 : Fr n0 L107 := Eq.mpr (congrArg (Fr n0) l107) (Fr.app N106 N107q)
  refine Go.step st107 ?_
  show Go p e below _ (T107.setTop (mkF m 598 _ [(.int (f1 (9 : Int32) v42 gs)), (.int (9 : Int32)), (.ref b88)]))
  obtain ⟨cl108, Ar108, in108, -⟩ := A_b88_106.hin (j := (9 : Int32)) (by decide) (by decide)
  obtain ⟨T108, h108, X108, e108, W108, st108⟩ := stB X107 hx hZ e107 Ar108 in108 (g := (mkF m 598 #[.val (.long q1), .second, .val (.int p2), .val (.int p3), .val (.ref b4), .val (.int v24), .val (.int v26), .val (.int v29), .val (.int v31), .val (.int v32), .val (.int v34), .val (.int v36), .val (.int v37), .val (.int v38), .val (.int v39), .val (.long v40), .second, .val (.long v42), .second, .val (.int v45), .val (.int v50), .val (.int v65), .val (.int v69), .val (.ref b71), .val (.ref b88), .unset, .unset, .unset, .unset] [(.int (f1 (9 : Int32) v42 gs)), (.int (9 : Int32)), (.ref b88)])) rfl rfl (hb hby at_598)
  refine Go.step st108 ?_
  have N108 := Fr.snoc X108 N107 g_b88
  have A_b4_108 := A_b4_106.other W108 ne_b4_b88
  have A_b71_108 := A_b71_106.other W108 ne_b71_b88
  have Z108 := Nat.le_trans Z106 (Keep.of_wr W108).1
  have KK108 : Keep h0 h108 [] := KK106.wr W108 (Or.inr sz_b88)
  have A_b88_108 : Ary Z h108 b88 .byte 26 (fun i => .int ((tK v42 gs 10) i)) := by exact (A_b88_106.setI W108 (by decide)).congr fun i _ => congrArg Value.int (tK_S _ _ _ (by decide) i)
  show Go p e below _ (T108.setTop (mkF m 599 _ []))
  refine gB (q := 601) X108 hx (hb hby at_599) rfl rfl rfl ?_
  refine Go.step (fun t k => XS.bipush X108.here hx rfl (hb hby at_601)  k) ?_
  show Go p e below _ (T108.setTop (mkF m 603 _ [(.int (10 : Int32)), (.ref b88)]))
  refine Go.step (fun t k => XS.bipush X108.here hx rfl (hb hby at_603)  k) ?_
  show Go p e below _ (T108.setTop (mkF m 605 _ [(.int (10 : Int32)), (.int (10 : Int32)), (.ref b88)]))
  refine gB (q := 607) X108 hx (hb hby at_605) rfl rfl rfl ?_
  refine Go.step (fun t k => XS.lload X108.here hx rfl (hb hby at_607) rfl k) ?_
  show Go p e below _ (T108.setTop (mkF m 609 _ [(.long v42), (.ref b71), (.int (10 : Int32)), (.int (10 : Int32)), (.ref b88)]))
  refine gB (q := 611) X108 hx (hb hby at_609) rfl rfl rfl ?_
  obtain ⟨_, _, ⟨T109, L109, k109, n109⟩, -, X109, ⟨Lc109, hQ109, l109, y109, z109⟩, st109⟩ := Jvm.LawKit.callS X108 hx (y := (⟨"com/example/biller/biller/files/PlainValueReadPinLaw", "at", "(I[IJ[J)B"⟩ : MethodName)) hown (mvT hZ (hw _ (List.mem_of_getElem? (i := 22) rfl))) (mvT hZ (hw _ (List.mem_of_getElem? (i := 23) rfl))) (mvT hZ (hw _ (List.mem_of_getElem? (i := 24) rfl))) (mvT hZ (hw _ (List.mem_of_getElem? (i := 25) rfl))) (by decide) (backOf (W := 2) (rm1 l Z a0 hw [] (10 : Int32) b71 v42 b4 gs h108 n0 Z108 (hW : AtW gs) A_b71_108 A_b4_108) hZ (hw _ (List.mem_of_getElem? (i := 25) rfl)) (hw _ (List.mem_of_getElem? (i := 24) rfl)) (by decide) (by decide)) (g := (mkF m 611 #[.val (.long q1), .second, .val (.int p2), .val (.int p3), .val (.ref b4), .val (.int v24), .val (.int v26), .val (.int v29), .val (.int v31), .val (.int v32), .val (.int v34), .val (.int v36), .val (.int v37), .val (.int v38), .val (.int v39), .val (.long v40), .second, .val (.long v42), .second, .val (.int v45), .val (.int v50), .val (.int v65), .val (.int v69), .val (.ref b71), .val (.ref b88), .unset, .unset, .unset, .unset] [(.ref b4), (.long v42), (.ref b71), (.int (10 : Int32)), (.int (10 : Int32)), (.ref b88)])) rfl (by rw [hml]; rfl) (argsL := [(.int (10 : Int32)), (.ref b71), (.long v42), (.ref b4)]) (rest := [(.int (10 : Int32)), (.ref b88)]) (lenOf pd_0 rfl) rfl (by show 2 * 0 + _ ≤ _; exact Nat.le_of_eq rfl) (hb hby at_611) (fun _ _ => ⟨rfl, e108, (by decide : 3 + 0 ≤ _), (by decide : 55 + 0 ≤ _)⟩)
  dsimp only [Pt.U, Pt.locs, Pt.cells, Pt.slots] at X109 l109 y109 z109 st109 hQ109
  replace y109 : k109 = 3 := y109
  replace z109 : n109 = 55 := z109
  subst y109 z109
  obtain ⟨rfl, N109q, e109⟩ := hQ109
  have N109 : Fr n0 L109 := Eq.mpr (congrArg (Fr n0) l109) (Fr.app N108 N109q)
  refine Go.step st109 ?_
  show Go p e below _ (T109.setTop (mkF m 614 _ [(.int (f1 (10 : Int32) v42 gs)), (.int (10 : Int32)), (.ref b88)]))
  obtain ⟨cl110, Ar110, in110, -⟩ := A_b88_108.hin (j := (10 : Int32)) (by decide) (by decide)
  obtain ⟨T110, h110, X110, e110, W110, st110⟩ := stB X109 hx hZ e109 Ar110 in110 (g := (mkF m 614 #[.val (.long q1), .second, .val (.int p2), .val (.int p3), .val (.ref b4), .val (.int v24), .val (.int v26), .val (.int v29), .val (.int v31), .val (.int v32), .val (.int v34), .val (.int v36), .val (.int v37), .val (.int v38), .val (.int v39), .val (.long v40), .second, .val (.long v42), .second, .val (.int v45), .val (.int v50), .val (.int v65), .val (.int v69), .val (.ref b71), .val (.ref b88), .unset, .unset, .unset, .unset] [(.int (f1 (10 : Int32) v42 gs)), (.int (10 : Int32)), (.ref b88)])) rfl rfl (hb hby at_614)
  refine Go.step st110 ?_
  have N110 := Fr.snoc X110 N109 g_b88
  have A_b4_110 := A_b4_108.other W110 ne_b4_b88
  have A_b71_110 := A_b71_108.other W110 ne_b71_b88
  have Z110 := Nat.le_trans Z108 (Keep.of_wr W110).1
  have KK110 : Keep h0 h110 [] := KK108.wr W110 (Or.inr sz_b88)
  have A_b88_110 : Ary Z h110 b88 .byte 26 (fun i => .int ((tK v42 gs 11) i)) := by exact (A_b88_108.setI W110 (by decide)).congr fun i _ => congrArg Value.int (tK_S _ _ _ (by decide) i)
  show Go p e below _ (T110.setTop (mkF m 615 _ []))
  refine gB (q := 617) X110 hx (hb hby at_615) rfl rfl rfl ?_
  refine Go.step (fun t k => XS.bipush X110.here hx rfl (hb hby at_617)  k) ?_
  show Go p e below _ (T110.setTop (mkF m 619 _ [(.int (11 : Int32)), (.ref b88)]))
  refine Go.step (fun t k => XS.bipush X110.here hx rfl (hb hby at_619)  k) ?_
  show Go p e below _ (T110.setTop (mkF m 621 _ [(.int (11 : Int32)), (.int (11 : Int32)), (.ref b88)]))
  refine gB (q := 623) X110 hx (hb hby at_621) rfl rfl rfl ?_
  refine Go.step (fun t k => XS.lload X110.here hx rfl (hb hby at_623) rfl k) ?_
  show Go p e below _ (T110.setTop (mkF m 625 _ [(.long v42), (.ref b71), (.int (11 : Int32)), (.int (11 : Int32)), (.ref b88)]))
  refine gB (q := 627) X110 hx (hb hby at_625) rfl rfl rfl ?_
  obtain ⟨_, _, ⟨T111, L111, k111, n111⟩, -, X111, ⟨Lc111, hQ111, l111, y111, z111⟩, st111⟩ := Jvm.LawKit.callS X110 hx (y := (⟨"com/example/biller/biller/files/PlainValueReadPinLaw", "at", "(I[IJ[J)B"⟩ : MethodName)) hown (mvT hZ (hw _ (List.mem_of_getElem? (i := 22) rfl))) (mvT hZ (hw _ (List.mem_of_getElem? (i := 23) rfl))) (mvT hZ (hw _ (List.mem_of_getElem? (i := 24) rfl))) (mvT hZ (hw _ (List.mem_of_getElem? (i := 25) rfl))) (by decide) (backOf (W := 2) (rm1 l Z a0 hw [] (11 : Int32) b71 v42 b4 gs h110 n0 Z110 (hW : AtW gs) A_b71_110 A_b4_110) hZ (hw _ (List.mem_of_getElem? (i := 25) rfl)) (hw _ (List.mem_of_getElem? (i := 24) rfl)) (by decide) (by decide)) (g := (mkF m 627 #[.val (.long q1), .second, .val (.int p2), .val (.int p3), .val (.ref b4), .val (.int v24), .val (.int v26), .val (.int v29), .val (.int v31), .val (.int v32), .val (.int v34), .val (.int v36), .val (.int v37), .val (.int v38), .val (.int v39), .val (.long v40), .second, .val (.long v42), .second, .val (.int v45), .val (.int v50), .val (.int v65), .val (.int v69), .val (.ref b71), .val (.ref b88), .unset, .unset, .unset, .unset] [(.ref b4), (.long v42), (.ref b71), (.int (11 : Int32)), (.int (11 : Int32)), (.ref b88)])) rfl (by rw [hml]; rfl) (argsL := [(.int (11 : Int32)), (.ref b71), (.long v42), (.ref b4)]) (rest := [(.int (11 : Int32)), (.ref b88)]) (lenOf pd_0 rfl) rfl (by show 2 * 0 + _ ≤ _; exact Nat.le_of_eq rfl) (hb hby at_627) (fun _ _ => ⟨rfl, e110, (by decide : 3 + 0 ≤ _), (by decide : 55 + 0 ≤ _)⟩)
  dsimp only [Pt.U, Pt.locs, Pt.cells, Pt.slots] at X111 l111 y111 z111 st111 hQ111
  replace y111 : k111 = 3 := y111
  replace z111 : n111 = 55 := z111
  subst y111 z111
  obtain ⟨rfl, N111q, e111⟩ := hQ111
  have N111 : Fr n0 L111 := Eq.mpr (congrArg (Fr n0) l111) (Fr.app N110 N111q)
  refine Go.step st111 ?_
  show Go p e below _ (T111.setTop (mkF m 630 _ [(.int (f1 (11 : Int32) v42 gs)), (.int (11 : Int32)), (.ref b88)]))
  obtain ⟨cl112, Ar112, in112, -⟩ := A_b88_110.hin (j := (11 : Int32)) (by decide) (by decide)
  obtain ⟨T112, h112, X112, e112, W112, st112⟩ := stB X111 hx hZ e111 Ar112 in112 (g := (mkF m 630 #[.val (.long q1), .second, .val (.int p2), .val (.int p3), .val (.ref b4), .val (.int v24), .val (.int v26), .val (.int v29), .val (.int v31), .val (.int v32), .val (.int v34), .val (.int v36), .val (.int v37), .val (.int v38), .val (.int v39), .val (.long v40), .second, .val (.long v42), .second, .val (.int v45), .val (.int v50), .val (.int v65), .val (.int v69), .val (.ref b71), .val (.ref b88), .unset, .unset, .unset, .unset] [(.int (f1 (11 : Int32) v42 gs)), (.int (11 : Int32)), (.ref b88)])) rfl rfl (hb hby at_630)
  refine Go.step st112 ?_
  have N112 := Fr.snoc X112 N111 g_b88
  have A_b4_112 := A_b4_110.other W112 ne_b4_b88
  have A_b71_112 := A_b71_110.other W112 ne_b71_b88
  have Z112 := Nat.le_trans Z110 (Keep.of_wr W112).1
  have KK112 : Keep h0 h112 [] := KK110.wr W112 (Or.inr sz_b88)
  have A_b88_112 : Ary Z h112 b88 .byte 26 (fun i => .int ((tK v42 gs 12) i)) := by exact (A_b88_110.setI W112 (by decide)).congr fun i _ => congrArg Value.int (tK_S _ _ _ (by decide) i)
  show Go p e below _ (T112.setTop (mkF m 631 _ []))
  refine gB (q := 633) X112 hx (hb hby at_631) rfl rfl rfl ?_
  refine Go.step (fun t k => XS.bipush X112.here hx rfl (hb hby at_633)  k) ?_
  show Go p e below _ (T112.setTop (mkF m 635 _ [(.int (12 : Int32)), (.ref b88)]))
  refine Go.step (fun t k => XS.bipush X112.here hx rfl (hb hby at_635)  k) ?_
  show Go p e below _ (T112.setTop (mkF m 637 _ [(.int (12 : Int32)), (.int (12 : Int32)), (.ref b88)]))
  refine gB (q := 639) X112 hx (hb hby at_637) rfl rfl rfl ?_
  refine Go.step (fun t k => XS.lload X112.here hx rfl (hb hby at_639) rfl k) ?_
  show Go p e below _ (T112.setTop (mkF m 641 _ [(.long v42), (.ref b71), (.int (12 : Int32)), (.int (12 : Int32)), (.ref b88)]))
  refine gB (q := 643) X112 hx (hb hby at_641) rfl rfl rfl ?_
  obtain ⟨_, _, ⟨T113, L113, k113, n113⟩, -, X113, ⟨Lc113, hQ113, l113, y113, z113⟩, st113⟩ := Jvm.LawKit.callS X112 hx (y := (⟨"com/example/biller/biller/files/PlainValueReadPinLaw", "at", "(I[IJ[J)B"⟩ : MethodName)) hown (mvT hZ (hw _ (List.mem_of_getElem? (i := 22) rfl))) (mvT hZ (hw _ (List.mem_of_getElem? (i := 23) rfl))) (mvT hZ (hw _ (List.mem_of_getElem? (i := 24) rfl))) (mvT hZ (hw _ (List.mem_of_getElem? (i := 25) rfl))) (by decide) (backOf (W := 2) (rm1 l Z a0 hw [] (12 : Int32) b71 v42 b4 gs h112 n0 Z112 (hW : AtW gs) A_b71_112 A_b4_112) hZ (hw _ (List.mem_of_getElem? (i := 25) rfl)) (hw _ (List.mem_of_getElem? (i := 24) rfl)) (by decide) (by decide)) (g := (mkF m 643 #[.val (.long q1), .second, .val (.int p2), .val (.int p3), .val (.ref b4), .val (.int v24), .val (.int v26), .val (.int v29), .val (.int v31), .val (.int v32), .val (.int v34), .val (.int v36), .val (.int v37), .val (.int v38), .val (.int v39), .val (.long v40), .second, .val (.long v42), .second, .val (.int v45), .val (.int v50), .val (.int v65), .val (.int v69), .val (.ref b71), .val (.ref b88), .unset, .unset, .unset, .unset] [(.ref b4), (.long v42), (.ref b71), (.int (12 : Int32)), (.int (12 : Int32)), (.ref b88)])) rfl (by rw [hml]; rfl) (argsL := [(.int (12 : Int32)), (.ref b71), (.long v42), (.ref b4)]) (rest := [(.int (12 : Int32)), (.ref b88)]) (lenOf pd_0 rfl) rfl (by show 2 * 0 + _ ≤ _; exact Nat.le_of_eq rfl) (hb hby at_643) (fun _ _ => ⟨rfl, e112, (by decide : 3 + 0 ≤ _), (by decide : 55 + 0 ≤ _)⟩)
  dsimp only [Pt.U, Pt.locs, Pt.cells, Pt.slots] at X113 l113 y113 z113 st113 hQ113
  replace y113 : k113 = 3 := y113
  replace z113 : n113 = 55 := z113
  subst y113 z113
  obtain ⟨rfl, N113q, e113⟩ := hQ113
  have N113 : Fr n0 L113 := Eq.mpr (congrArg (Fr n0) l113) (Fr.app N112 N113q)
  refine Go.step st113 ?_
  show Go p e below _ (T113.setTop (mkF m 646 _ [(.int (f1 (12 : Int32) v42 gs)), (.int (12 : Int32)), (.ref b88)]))
  obtain ⟨cl114, Ar114, in114, -⟩ := A_b88_112.hin (j := (12 : Int32)) (by decide) (by decide)
  obtain ⟨T114, h114, X114, e114, W114, st114⟩ := stB X113 hx hZ e113 Ar114 in114 (g := (mkF m 646 #[.val (.long q1), .second, .val (.int p2), .val (.int p3), .val (.ref b4), .val (.int v24), .val (.int v26), .val (.int v29), .val (.int v31), .val (.int v32), .val (.int v34), .val (.int v36), .val (.int v37), .val (.int v38), .val (.int v39), .val (.long v40), .second, .val (.long v42), .second, .val (.int v45), .val (.int v50), .val (.int v65), .val (.int v69), .val (.ref b71), .val (.ref b88), .unset, .unset, .unset, .unset] [(.int (f1 (12 : Int32) v42 gs)), (.int (12 : Int32)), (.ref b88)])) rfl rfl (hb hby at_646)
  refine Go.step st114 ?_
  have N114 := Fr.snoc X114 N113 g_b88
  have A_b4_114 := A_b4_112.other W114 ne_b4_b88
  have A_b71_114 := A_b71_112.other W114 ne_b71_b88
  have Z114 := Nat.le_trans Z112 (Keep.of_wr W114).1
  have KK114 : Keep h0 h114 [] := KK112.wr W114 (Or.inr sz_b88)
  have A_b88_114 : Ary Z h114 b88 .byte 26 (fun i => .int ((tK v42 gs 13) i)) := by exact (A_b88_112.setI W114 (by decide)).congr fun i _ => congrArg Value.int (tK_S _ _ _ (by decide) i)
  show Go p e below _ (T114.setTop (mkF m 647 _ []))
  refine gB (q := 649) X114 hx (hb hby at_647) rfl rfl rfl ?_
  refine Go.step (fun t k => XS.bipush X114.here hx rfl (hb hby at_649)  k) ?_
  show Go p e below _ (T114.setTop (mkF m 651 _ [(.int (13 : Int32)), (.ref b88)]))
  refine Go.step (fun t k => XS.bipush X114.here hx rfl (hb hby at_651)  k) ?_
  show Go p e below _ (T114.setTop (mkF m 653 _ [(.int (13 : Int32)), (.int (13 : Int32)), (.ref b88)]))
  refine gB (q := 655) X114 hx (hb hby at_653) rfl rfl rfl ?_
  refine Go.step (fun t k => XS.lload X114.here hx rfl (hb hby at_655) rfl k) ?_
  show Go p e below _ (T114.setTop (mkF m 657 _ [(.long v42), (.ref b71), (.int (13 : Int32)), (.int (13 : Int32)), (.ref b88)]))
  refine gB (q := 659) X114 hx (hb hby at_657) rfl rfl rfl ?_
  obtain ⟨_, _, ⟨T115, L115, k115, n115⟩, -, X115, ⟨Lc115, hQ115, l115, y115, z115⟩, st115⟩ := Jvm.LawKit.callS X114 hx (y := (⟨"com/example/biller/biller/files/PlainValueReadPinLaw", "at", "(I[IJ[J)B"⟩ : MethodName)) hown (mvT hZ (hw _ (List.mem_of_getElem? (i := 22) rfl))) (mvT hZ (hw _ (List.mem_of_getElem? (i := 23) rfl))) (mvT hZ (hw _ (List.mem_of_getElem? (i := 24) rfl))) (mvT hZ (hw _ (List.mem_of_getElem? (i := 25) rfl))) (by decide) (backOf (W := 2) (rm1 l Z a0 hw [] (13 : Int32) b71 v42 b4 gs h114 n0 Z114 (hW : AtW gs) A_b71_114 A_b4_114) hZ (hw _ (List.mem_of_getElem? (i := 25) rfl)) (hw _ (List.mem_of_getElem? (i := 24) rfl)) (by decide) (by decide)) (g := (mkF m 659 #[.val (.long q1), .second, .val (.int p2), .val (.int p3), .val (.ref b4), .val (.int v24), .val (.int v26), .val (.int v29), .val (.int v31), .val (.int v32), .val (.int v34), .val (.int v36), .val (.int v37), .val (.int v38), .val (.int v39), .val (.long v40), .second, .val (.long v42), .second, .val (.int v45), .val (.int v50), .val (.int v65), .val (.int v69), .val (.ref b71), .val (.ref b88), .unset, .unset, .unset, .unset] [(.ref b4), (.long v42), (.ref b71), (.int (13 : Int32)), (.int (13 : Int32)), (.ref b88)])) rfl (by rw [hml]; rfl) (argsL := [(.int (13 : Int32)), (.ref b71), (.long v42), (.ref b4)]) (rest := [(.int (13 : Int32)), (.ref b88)]) (lenOf pd_0 rfl) rfl (by show 2 * 0 + _ ≤ _; exact Nat.le_of_eq rfl) (hb hby at_659) (fun _ _ => ⟨rfl, e114, (by decide : 3 + 0 ≤ _), (by decide : 55 + 0 ≤ _)⟩)
  dsimp only [Pt.U, Pt.locs, Pt.cells, Pt.slots] at X115 l115 y115 z115 st115 hQ115
  replace y115 : k115 = 3 := y115
  replace z115 : n115 = 55 := z115
  subst y115 z115
  obtain ⟨rfl, N115q, e115⟩ := hQ115
  have N115 : Fr n0 L115 := Eq.mpr (congrArg (Fr n0) l115) (Fr.app N114 N115q)
  refine Go.step st115 ?_
  show Go p e below _ (T115.setTop (mkF m 662 _ [(.int (f1 (13 : Int32) v42 gs)), (.int (13 : Int32)), (.ref b88)]))
  obtain ⟨cl116, Ar116, in116, -⟩ := A_b88_114.hin (j := (13 : Int32)) (by decide) (by decide)
  obtain ⟨T116, h116, X116, e116, W116, st116⟩ := stB X115 hx hZ e115 Ar116 in116 (g := (mkF m 662 #[.val (.long q1), .second, .val (.int p2), .val (.int p3), .val (.ref b4), .val (.int v24), .val (.int v26), .val (.int v29), .val (.int v31), .val (.int v32), .val (.int v34), .val (.int v36), .val (.int v37), .val (.int v38), .val (.int v39), .val (.long v40), .second, .val (.long v42), .second, .val (.int v45), .val (.int v50), .val (.int v65), .val (.int v69), .val (.ref b71), .val (.ref b88), .unset, .unset, .unset, .unset] [(.int (f1 (13 : Int32) v42 gs)), (.int (13 : Int32)), (.ref b88)])) rfl rfl (hb hby at_662)
  refine Go.step st116 ?_
  have N116 := Fr.snoc X116 N115 g_b88
  have A_b4_116 := A_b4_114.other W116 ne_b4_b88
  have A_b71_116 := A_b71_114.other W116 ne_b71_b88
  have Z116 := Nat.le_trans Z114 (Keep.of_wr W116).1
  have KK116 : Keep h0 h116 [] := KK114.wr W116 (Or.inr sz_b88)
  have A_b88_116 : Ary Z h116 b88 .byte 26 (fun i => .int ((tK v42 gs 14) i)) := by exact (A_b88_114.setI W116 (by decide)).congr fun i _ => congrArg Value.int (tK_S _ _ _ (by decide) i)
  show Go p e below _ (T116.setTop (mkF m 663 _ []))
  refine gB (q := 665) X116 hx (hb hby at_663) rfl rfl rfl ?_
  refine Go.step (fun t k => XS.bipush X116.here hx rfl (hb hby at_665)  k) ?_
  show Go p e below _ (T116.setTop (mkF m 667 _ [(.int (14 : Int32)), (.ref b88)]))
  refine Go.step (fun t k => XS.bipush X116.here hx rfl (hb hby at_667)  k) ?_
  show Go p e below _ (T116.setTop (mkF m 669 _ [(.int (14 : Int32)), (.int (14 : Int32)), (.ref b88)]))
  refine gB (q := 671) X116 hx (hb hby at_669) rfl rfl rfl ?_
  refine Go.step (fun t k => XS.lload X116.here hx rfl (hb hby at_671) rfl k) ?_
  show Go p e below _ (T116.setTop (mkF m 673 _ [(.long v42), (.ref b71), (.int (14 : Int32)), (.int (14 : Int32)), (.ref b88)]))
  refine gB (q := 675) X116 hx (hb hby at_673) rfl rfl rfl ?_
  obtain ⟨_, _, ⟨T117, L117, k117, n117⟩, -, X117, ⟨Lc117, hQ117, l117, y117, z117⟩, st117⟩ := Jvm.LawKit.callS X116 hx (y := (⟨"com/example/biller/biller/files/PlainValueReadPinLaw", "at", "(I[IJ[J)B"⟩ : MethodName)) hown (mvT hZ (hw _ (List.mem_of_getElem? (i := 22) rfl))) (mvT hZ (hw _ (List.mem_of_getElem? (i := 23) rfl))) (mvT hZ (hw _ (List.mem_of_getElem? (i := 24) rfl))) (mvT hZ (hw _ (List.mem_of_getElem? (i := 25) rfl))) (by decide) (backOf (W := 2) (rm1 l Z a0 hw [] (14 : Int32) b71 v42 b4 gs h116 n0 Z116 (hW : AtW gs) A_b71_116 A_b4_116) hZ (hw _ (List.mem_of_getElem? (i := 25) rfl)) (hw _ (List.mem_of_getElem? (i := 24) rfl)) (by decide) (by decide)) (g := (mkF m 675 #[.val (.long q1), .second, .val (.int p2), .val (.int p3), .val (.ref b4), .val (.int v24), .val (.int v26), .val (.int v29), .val (.int v31), .val (.int v32), .val (.int v34), .val (.int v36), .val (.int v37), .val (.int v38), .val (.int v39), .val (.long v40), .second, .val (.long v42), .second, .val (.int v45), .val (.int v50), .val (.int v65), .val (.int v69), .val (.ref b71), .val (.ref b88), .unset, .unset, .unset, .unset] [(.ref b4), (.long v42), (.ref b71), (.int (14 : Int32)), (.int (14 : Int32)), (.ref b88)])) rfl (by rw [hml]; rfl) (argsL := [(.int (14 : Int32)), (.ref b71), (.long v42), (.ref b4)]) (rest := [(.int (14 : Int32)), (.ref b88)]) (lenOf pd_0 rfl) rfl (by show 2 * 0 + _ ≤ _; exact Nat.le_of_eq rfl) (hb hby at_675) (fun _ _ => ⟨rfl, e116, (by decide : 3 + 0 ≤ _), (by decide : 55 + 0 ≤ _)⟩)
  dsimp only [Pt.U, Pt.locs, Pt.cells, Pt.slots] at X117 l117 y117 z117 st117 hQ117
  replace y117 : k117 = 3 := y117
  replace z117 : n117 = 55 := z117
  subst y117 z117
  obtain ⟨rfl, N117q, e117⟩ := hQ117
  have N117 : Fr n0 L117 := Eq.mpr (congrArg (Fr n0) l117) (Fr.app N116 N117q)
  refine Go.step st117 ?_
  show Go p e below _ (T117.setTop (mkF m 678 _ [(.int (f1 (14 : Int32) v42 gs)), (.int (14 : Int32)), (.ref b88)]))
  obtain ⟨cl118, Ar118, in118, -⟩ := A_b88_116.hin (j := (14 : Int32)) (by decide) (by decide)
  obtain ⟨T118, h118, X118, e118, W118, st118⟩ := stB X117 hx hZ e117 Ar118 in118 (g := (mkF m 678 #[.val (.long q1), .second, .val (.int p2), .val (.int p3), .val (.ref b4), .val (.int v24), .val (.int v26), .val (.int v29), .val (.int v31), .val (.int v32), .val (.int v34), .val (.int v36), .val (.int v37), .val (.int v38), .val (.int v39), .val (.long v40), .second, .val (.long v42), .second, .val (.int v45), .val (.int v50), .val (.int v65), .val (.int v69), .val (.ref b71), .val (.ref b88), .unset, .unset, .unset, .unset] [(.int (f1 (14 : Int32) v42 gs)), (.int (14 : Int32)), (.ref b88)])) rfl rfl (hb hby at_678)
  refine Go.step st118 ?_
  have N118 := Fr.snoc X118 N117 g_b88
  have A_b4_118 := A_b4_116.other W118 ne_b4_b88
  have A_b71_118 := A_b71_116.other W118 ne_b71_b88
  have Z118 := Nat.le_trans Z116 (Keep.of_wr W118).1
  have KK118 : Keep h0 h118 [] := KK116.wr W118 (Or.inr sz_b88)
  have A_b88_118 : Ary Z h118 b88 .byte 26 (fun i => .int ((tK v42 gs 15) i)) := by exact (A_b88_116.setI W118 (by decide)).congr fun i _ => congrArg Value.int (tK_S _ _ _ (by decide) i)
  show Go p e below _ (T118.setTop (mkF m 679 _ []))
  refine gB (q := 681) X118 hx (hb hby at_679) rfl rfl rfl ?_
  refine Go.step (fun t k => XS.bipush X118.here hx rfl (hb hby at_681)  k) ?_
  show Go p e below _ (T118.setTop (mkF m 683 _ [(.int (15 : Int32)), (.ref b88)]))
  refine Go.step (fun t k => XS.bipush X118.here hx rfl (hb hby at_683)  k) ?_
  show Go p e below _ (T118.setTop (mkF m 685 _ [(.int (15 : Int32)), (.int (15 : Int32)), (.ref b88)]))
  refine gB (q := 687) X118 hx (hb hby at_685) rfl rfl rfl ?_
  refine Go.step (fun t k => XS.lload X118.here hx rfl (hb hby at_687) rfl k) ?_
  show Go p e below _ (T118.setTop (mkF m 689 _ [(.long v42), (.ref b71), (.int (15 : Int32)), (.int (15 : Int32)), (.ref b88)]))
  refine gB (q := 691) X118 hx (hb hby at_689) rfl rfl rfl ?_
  obtain ⟨_, _, ⟨T119, L119, k119, n119⟩, -, X119, ⟨Lc119, hQ119, l119, y119, z119⟩, st119⟩ := Jvm.LawKit.callS X118 hx (y := (⟨"com/example/biller/biller/files/PlainValueReadPinLaw", "at", "(I[IJ[J)B"⟩ : MethodName)) hown (mvT hZ (hw _ (List.mem_of_getElem? (i := 22) rfl))) (mvT hZ (hw _ (List.mem_of_getElem? (i := 23) rfl))) (mvT hZ (hw _ (List.mem_of_getElem? (i := 24) rfl))) (mvT hZ (hw _ (List.mem_of_getElem? (i := 25) rfl))) (by decide) (backOf (W := 2) (rm1 l Z a0 hw [] (15 : Int32) b71 v42 b4 gs h118 n0 Z118 (hW : AtW gs) A_b71_118 A_b4_118) hZ (hw _ (List.mem_of_getElem? (i := 25) rfl)) (hw _ (List.mem_of_getElem? (i := 24) rfl)) (by decide) (by decide)) (g := (mkF m 691 #[.val (.long q1), .second, .val (.int p2), .val (.int p3), .val (.ref b4), .val (.int v24), .val (.int v26), .val (.int v29), .val (.int v31), .val (.int v32), .val (.int v34), .val (.int v36), .val (.int v37), .val (.int v38), .val (.int v39), .val (.long v40), .second, .val (.long v42), .second, .val (.int v45), .val (.int v50), .val (.int v65), .val (.int v69), .val (.ref b71), .val (.ref b88), .unset, .unset, .unset, .unset] [(.ref b4), (.long v42), (.ref b71), (.int (15 : Int32)), (.int (15 : Int32)), (.ref b88)])) rfl (by rw [hml]; rfl) (argsL := [(.int (15 : Int32)), (.ref b71), (.long v42), (.ref b4)]) (rest := [(.int (15 : Int32)), (.ref b88)]) (lenOf pd_0 rfl) rfl (by show 2 * 0 + _ ≤ _; exact Nat.le_of_eq rfl) (hb hby at_691) (fun _ _ => ⟨rfl, e118, (by decide : 3 + 0 ≤ _), (by decide : 55 + 0 ≤ _)⟩)
  dsimp only [Pt.U, Pt.locs, Pt.cells, Pt.slots] at X119 l119 y119 z119 st119 hQ119
  replace y119 : k119 = 3 := y119
  replace z119 : n119 = 55 := z119
  subst y119 z119
  obtain ⟨rfl, N119q, e119⟩ := hQ119
  have N119 : Fr n0 L119 := Eq.mpr (congrArg (Fr n0) l119) (Fr.app N118 N119q)
  refine Go.step st119 ?_
  show Go p e below _ (T119.setTop (mkF m 694 _ [(.int (f1 (15 : Int32) v42 gs)), (.int (15 : Int32)), (.ref b88)]))
  obtain ⟨cl120, Ar120, in120, -⟩ := A_b88_118.hin (j := (15 : Int32)) (by decide) (by decide)
  obtain ⟨T120, h120, X120, e120, W120, st120⟩ := stB X119 hx hZ e119 Ar120 in120 (g := (mkF m 694 #[.val (.long q1), .second, .val (.int p2), .val (.int p3), .val (.ref b4), .val (.int v24), .val (.int v26), .val (.int v29), .val (.int v31), .val (.int v32), .val (.int v34), .val (.int v36), .val (.int v37), .val (.int v38), .val (.int v39), .val (.long v40), .second, .val (.long v42), .second, .val (.int v45), .val (.int v50), .val (.int v65), .val (.int v69), .val (.ref b71), .val (.ref b88), .unset, .unset, .unset, .unset] [(.int (f1 (15 : Int32) v42 gs)), (.int (15 : Int32)), (.ref b88)])) rfl rfl (hb hby at_694)
  refine Go.step st120 ?_
  have N120 := Fr.snoc X120 N119 g_b88
  have A_b4_120 := A_b4_118.other W120 ne_b4_b88
  have A_b71_120 := A_b71_118.other W120 ne_b71_b88
  have Z120 := Nat.le_trans Z118 (Keep.of_wr W120).1
  have KK120 : Keep h0 h120 [] := KK118.wr W120 (Or.inr sz_b88)
  have A_b88_120 : Ary Z h120 b88 .byte 26 (fun i => .int ((tK v42 gs 16) i)) := by exact (A_b88_118.setI W120 (by decide)).congr fun i _ => congrArg Value.int (tK_S _ _ _ (by decide) i)
  show Go p e below _ (T120.setTop (mkF m 695 _ []))
  refine gB (q := 697) X120 hx (hb hby at_695) rfl rfl rfl ?_
  refine Go.step (fun t k => XS.bipush X120.here hx rfl (hb hby at_697)  k) ?_
  show Go p e below _ (T120.setTop (mkF m 699 _ [(.int (16 : Int32)), (.ref b88)]))
  refine Go.step (fun t k => XS.bipush X120.here hx rfl (hb hby at_699)  k) ?_
  show Go p e below _ (T120.setTop (mkF m 701 _ [(.int (16 : Int32)), (.int (16 : Int32)), (.ref b88)]))
  refine gB (q := 703) X120 hx (hb hby at_701) rfl rfl rfl ?_
  refine Go.step (fun t k => XS.lload X120.here hx rfl (hb hby at_703) rfl k) ?_
  show Go p e below _ (T120.setTop (mkF m 705 _ [(.long v42), (.ref b71), (.int (16 : Int32)), (.int (16 : Int32)), (.ref b88)]))
  refine gB (q := 707) X120 hx (hb hby at_705) rfl rfl rfl ?_
  obtain ⟨_, _, ⟨T121, L121, k121, n121⟩, -, X121, ⟨Lc121, hQ121, l121, y121, z121⟩, st121⟩ := Jvm.LawKit.callS X120 hx (y := (⟨"com/example/biller/biller/files/PlainValueReadPinLaw", "at", "(I[IJ[J)B"⟩ : MethodName)) hown (mvT hZ (hw _ (List.mem_of_getElem? (i := 22) rfl))) (mvT hZ (hw _ (List.mem_of_getElem? (i := 23) rfl))) (mvT hZ (hw _ (List.mem_of_getElem? (i := 24) rfl))) (mvT hZ (hw _ (List.mem_of_getElem? (i := 25) rfl))) (by decide) (backOf (W := 2) (rm1 l Z a0 hw [] (16 : Int32) b71 v42 b4 gs h120 n0 Z120 (hW : AtW gs) A_b71_120 A_b4_120) hZ (hw _ (List.mem_of_getElem? (i := 25) rfl)) (hw _ (List.mem_of_getElem? (i := 24) rfl)) (by decide) (by decide)) (g := (mkF m 707 #[.val (.long q1), .second, .val (.int p2), .val (.int p3), .val (.ref b4), .val (.int v24), .val (.int v26), .val (.int v29), .val (.int v31), .val (.int v32), .val (.int v34), .val (.int v36), .val (.int v37), .val (.int v38), .val (.int v39), .val (.long v40), .second, .val (.long v42), .second, .val (.int v45), .val (.int v50), .val (.int v65), .val (.int v69), .val (.ref b71), .val (.ref b88), .unset, .unset, .unset, .unset] [(.ref b4), (.long v42), (.ref b71), (.int (16 : Int32)), (.int (16 : Int32)), (.ref b88)])) rfl (by rw [hml]; rfl) (argsL := [(.int (16 : Int32)), (.ref b71), (.long v42), (.ref b4)]) (rest := [(.int (16 : Int32)), (.ref b88)]) (lenOf pd_0 rfl) rfl (by show 2 * 0 + _ ≤ _; exact Nat.le_of_eq rfl) (hb hby at_707) (fun _ _ => ⟨rfl, e120, (by decide : 3 + 0 ≤ _), (by decide : 55 + 0 ≤ _)⟩)
  dsimp only [Pt.U, Pt.locs, Pt.cells, Pt.slots] at X121 l121 y121 z121 st121 hQ121
  replace y121 : k121 = 3 := y121
  replace z121 : n121 = 55 := z121
  subst y121 z121
  obtain ⟨rfl, N121q, e121⟩ := hQ121
  have N121 : Fr n0 L121 := Eq.mpr (congrArg (Fr n0) l121) (Fr.app N120 N121q)
  refine Go.step st121 ?_
  show Go p e below _ (T121.setTop (mkF m 710 _ [(.int (f1 (16 : Int32) v42 gs)), (.int (16 : Int32)), (.ref b88)]))
  obtain ⟨cl122, Ar122, in122, -⟩ := A_b88_120.hin (j := (16 : Int32)) (by decide) (by decide)
  obtain ⟨T122, h122, X122, e122, W122, st122⟩ := stB X121 hx hZ e121 Ar122 in122 (g := (mkF m 710 #[.val (.long q1), .second, .val (.int p2), .val (.int p3), .val (.ref b4), .val (.int v24), .val (.int v26), .val (.int v29), .val (.int v31), .val (.int v32), .val (.int v34), .val (.int v36), .val (.int v37), .val (.int v38), .val (.int v39), .val (.long v40), .second, .val (.long v42), .second, .val (.int v45), .val (.int v50), .val (.int v65), .val (.int v69), .val (.ref b71), .val (.ref b88), .unset, .unset, .unset, .unset] [(.int (f1 (16 : Int32) v42 gs)), (.int (16 : Int32)), (.ref b88)])) rfl rfl (hb hby at_710)
  refine Go.step st122 ?_
  have N122 := Fr.snoc X122 N121 g_b88
  have A_b4_122 := A_b4_120.other W122 ne_b4_b88
  have A_b71_122 := A_b71_120.other W122 ne_b71_b88
  have Z122 := Nat.le_trans Z120 (Keep.of_wr W122).1
  have KK122 : Keep h0 h122 [] := KK120.wr W122 (Or.inr sz_b88)
  have A_b88_122 : Ary Z h122 b88 .byte 26 (fun i => .int ((tK v42 gs 17) i)) := by exact (A_b88_120.setI W122 (by decide)).congr fun i _ => congrArg Value.int (tK_S _ _ _ (by decide) i)
  show Go p e below _ (T122.setTop (mkF m 711 _ []))
  refine gB (q := 713) X122 hx (hb hby at_711) rfl rfl rfl ?_
  refine Go.step (fun t k => XS.bipush X122.here hx rfl (hb hby at_713)  k) ?_
  show Go p e below _ (T122.setTop (mkF m 715 _ [(.int (17 : Int32)), (.ref b88)]))
  refine Go.step (fun t k => XS.bipush X122.here hx rfl (hb hby at_715)  k) ?_
  show Go p e below _ (T122.setTop (mkF m 717 _ [(.int (17 : Int32)), (.int (17 : Int32)), (.ref b88)]))
  refine gB (q := 719) X122 hx (hb hby at_717) rfl rfl rfl ?_
  refine Go.step (fun t k => XS.lload X122.here hx rfl (hb hby at_719) rfl k) ?_
  show Go p e below _ (T122.setTop (mkF m 721 _ [(.long v42), (.ref b71), (.int (17 : Int32)), (.int (17 : Int32)), (.ref b88)]))
  refine gB (q := 723) X122 hx (hb hby at_721) rfl rfl rfl ?_
  obtain ⟨_, _, ⟨T123, L123, k123, n123⟩, -, X123, ⟨Lc123, hQ123, l123, y123, z123⟩, st123⟩ := Jvm.LawKit.callS X122 hx (y := (⟨"com/example/biller/biller/files/PlainValueReadPinLaw", "at", "(I[IJ[J)B"⟩ : MethodName)) hown (mvT hZ (hw _ (List.mem_of_getElem? (i := 22) rfl))) (mvT hZ (hw _ (List.mem_of_getElem? (i := 23) rfl))) (mvT hZ (hw _ (List.mem_of_getElem? (i := 24) rfl))) (mvT hZ (hw _ (List.mem_of_getElem? (i := 25) rfl))) (by decide) (backOf (W := 2) (rm1 l Z a0 hw [] (17 : Int32) b71 v42 b4 gs h122 n0 Z122 (hW : AtW gs) A_b71_122 A_b4_122) hZ (hw _ (List.mem_of_getElem? (i := 25) rfl)) (hw _ (List.mem_of_getElem? (i := 24) rfl)) (by decide) (by decide)) (g := (mkF m 723 #[.val (.long q1), .second, .val (.int p2), .val (.int p3), .val (.ref b4), .val (.int v24), .val (.int v26), .val (.int v29), .val (.int v31), .val (.int v32), .val (.int v34), .val (.int v36), .val (.int v37), .val (.int v38), .val (.int v39), .val (.long v40), .second, .val (.long v42), .second, .val (.int v45), .val (.int v50), .val (.int v65), .val (.int v69), .val (.ref b71), .val (.ref b88), .unset, .unset, .unset, .unset] [(.ref b4), (.long v42), (.ref b71), (.int (17 : Int32)), (.int (17 : Int32)), (.ref b88)])) rfl (by rw [hml]; rfl) (argsL := [(.int (17 : Int32)), (.ref b71), (.long v42), (.ref b4)]) (rest := [(.int (17 : Int32)), (.ref b88)]) (lenOf pd_0 rfl) rfl (by show 2 * 0 + _ ≤ _; exact Nat.le_of_eq rfl) (hb hby at_723) (fun _ _ => ⟨rfl, e122, (by decide : 3 + 0 ≤ _), (by decide : 55 + 0 ≤ _)⟩)
  dsimp only [Pt.U, Pt.locs, Pt.cells, Pt.slots] at X123 l123 y123 z123 st123 hQ123
  replace y123 : k123 = 3 := y123
  replace z123 : n123 = 55 := z123
  subst y123 z123
  obtain ⟨rfl, N123q, e123⟩ := hQ123
  have N123 : Fr n0 L123 := Eq.mpr (congrArg (Fr n0) l123) (Fr.app N122 N123q)
  refine Go.step st123 ?_
  show Go p e below _ (T123.setTop (mkF m 726 _ [(.int (f1 (17 : Int32) v42 gs)), (.int (17 : Int32)), (.ref b88)]))
  obtain ⟨cl124, Ar124, in124, -⟩ := A_b88_122.hin (j := (17 : Int32)) (by decide) (by decide)
  obtain ⟨T124, h124, X124, e124, W124, st124⟩ := stB X123 hx hZ e123 Ar124 in124 (g := (mkF m 726 #[.val (.long q1), .second, .val (.int p2), .val (.int p3), .val (.ref b4), .val (.int v24), .val (.int v26), .val (.int v29), .val (.int v31), .val (.int v32), .val (.int v34), .val (.int v36), .val (.int v37), .val (.int v38), .val (.int v39), .val (.long v40), .second, .val (.long v42), .second, .val (.int v45), .val (.int v50), .val (.int v65), .val (.int v69), .val (.ref b71), .val (.ref b88), .unset, .unset, .unset, .unset] [(.int (f1 (17 : Int32) v42 gs)), (.int (17 : Int32)), (.ref b88)])) rfl rfl (hb hby at_726)
  refine Go.step st124 ?_
  have N124 := Fr.snoc X124 N123 g_b88
  have A_b4_124 := A_b4_122.other W124 ne_b4_b88
  have A_b71_124 := A_b71_122.other W124 ne_b71_b88
  have Z124 := Nat.le_trans Z122 (Keep.of_wr W124).1
  have KK124 : Keep h0 h124 [] := KK122.wr W124 (Or.inr sz_b88)
  have A_b88_124 : Ary Z h124 b88 .byte 26 (fun i => .int ((tK v42 gs 18) i)) := by exact (A_b88_122.setI W124 (by decide)).congr fun i _ => congrArg Value.int (tK_S _ _ _ (by decide) i)
  show Go p e below _ (T124.setTop (mkF m 727 _ []))
  refine gB (q := 729) X124 hx (hb hby at_727) rfl rfl rfl ?_
  refine Go.step (fun t k => XS.bipush X124.here hx rfl (hb hby at_729)  k) ?_
  show Go p e below _ (T124.setTop (mkF m 731 _ [(.int (18 : Int32)), (.ref b88)]))
  refine Go.step (fun t k => XS.bipush X124.here hx rfl (hb hby at_731)  k) ?_
  show Go p e below _ (T124.setTop (mkF m 733 _ [(.int (18 : Int32)), (.int (18 : Int32)), (.ref b88)]))
  refine gB (q := 735) X124 hx (hb hby at_733) rfl rfl rfl ?_
  refine Go.step (fun t k => XS.lload X124.here hx rfl (hb hby at_735) rfl k) ?_
  show Go p e below _ (T124.setTop (mkF m 737 _ [(.long v42), (.ref b71), (.int (18 : Int32)), (.int (18 : Int32)), (.ref b88)]))
  refine gB (q := 739) X124 hx (hb hby at_737) rfl rfl rfl ?_
  obtain ⟨_, _, ⟨T125, L125, k125, n125⟩, -, X125, ⟨Lc125, hQ125, l125, y125, z125⟩, st125⟩ := Jvm.LawKit.callS X124 hx (y := (⟨"com/example/biller/biller/files/PlainValueReadPinLaw", "at", "(I[IJ[J)B"⟩ : MethodName)) hown (mvT hZ (hw _ (List.mem_of_getElem? (i := 22) rfl))) (mvT hZ (hw _ (List.mem_of_getElem? (i := 23) rfl))) (mvT hZ (hw _ (List.mem_of_getElem? (i := 24) rfl))) (mvT hZ (hw _ (List.mem_of_getElem? (i := 25) rfl))) (by decide) (backOf (W := 2) (rm1 l Z a0 hw [] (18 : Int32) b71 v42 b4 gs h124 n0 Z124 (hW : AtW gs) A_b71_124 A_b4_124) hZ (hw _ (List.mem_of_getElem? (i := 25) rfl)) (hw _ (List.mem_of_getElem? (i := 24) rfl)) (by decide) (by decide)) (g := (mkF m 739 #[.val (.long q1), .second, .val (.int p2), .val (.int p3), .val (.ref b4), .val (.int v24), .val (.int v26), .val (.int v29), .val (.int v31), .val (.int v32), .val (.int v34), .val (.int v36), .val (.int v37), .val (.int v38), .val (.int v39), .val (.long v40), .second, .val (.long v42), .second, .val (.int v45), .val (.int v50), .val (.int v65), .val (.int v69), .val (.ref b71), .val (.ref b88), .unset, .unset, .unset, .unset] [(.ref b4), (.long v42), (.ref b71), (.int (18 : Int32)), (.int (18 : Int32)), (.ref b88)])) rfl (by rw [hml]; rfl) (argsL := [(.int (18 : Int32)), (.ref b71), (.long v42), (.ref b4)]) (rest := [(.int (18 : Int32)), (.ref b88)]) (lenOf pd_0 rfl) rfl (by show 2 * 0 + _ ≤ _; exact Nat.le_of_eq rfl) (hb hby at_739) (fun _ _ => ⟨rfl, e124, (by decide : 3 + 0 ≤ _), (by decide : 55 + 0 ≤ _)⟩)
  dsimp only [Pt.U, Pt.locs, Pt.cells, Pt.slots] at X125 l125 y125 z125 st125 hQ125
  replace y125 : k125 = 3 := y125
  replace z125 : n125 = 55 := z125
  subst y125 z125
  obtain ⟨rfl, N125q, e125⟩ := hQ125
  have N125 : Fr n0 L125 := Eq.mpr (congrArg (Fr n0) l125) (Fr.app N124 N125q)
  refine Go.step st125 ?_
  show Go p e below _ (T125.setTop (mkF m 742 _ [(.int (f1 (18 : Int32) v42 gs)), (.int (18 : Int32)), (.ref b88)]))
  obtain ⟨cl126, Ar126, in126, -⟩ := A_b88_124.hin (j := (18 : Int32)) (by decide) (by decide)
  obtain ⟨T126, h126, X126, e126, W126, st126⟩ := stB X125 hx hZ e125 Ar126 in126 (g := (mkF m 742 #[.val (.long q1), .second, .val (.int p2), .val (.int p3), .val (.ref b4), .val (.int v24), .val (.int v26), .val (.int v29), .val (.int v31), .val (.int v32), .val (.int v34), .val (.int v36), .val (.int v37), .val (.int v38), .val (.int v39), .val (.long v40), .second, .val (.long v42), .second, .val (.int v45), .val (.int v50), .val (.int v65), .val (.int v69), .val (.ref b71), .val (.ref b88), .unset, .unset, .unset, .unset] [(.int (f1 (18 : Int32) v42 gs)), (.int (18 : Int32)), (.ref b88)])) rfl rfl (hb hby at_742)
  refine Go.step st126 ?_
  have N126 := Fr.snoc X126 N125 g_b88
  have A_b4_126 := A_b4_124.other W126 ne_b4_b88
  have A_b71_126 := A_b71_124.other W126 ne_b71_b88
  have Z126 := Nat.le_trans Z124 (Keep.of_wr W126).1
  have KK126 : Keep h0 h126 [] := KK124.wr W126 (Or.inr sz_b88)
  have A_b88_126 : Ary Z h126 b88 .byte 26 (fun i => .int ((tK v42 gs 19) i)) := by exact (A_b88_124.setI W126 (by decide)).congr fun i _ => congrArg Value.int (tK_S _ _ _ (by decide) i)
  show Go p e below _ (T126.setTop (mkF m 743 _ []))
  refine gB (q := 745) X126 hx (hb hby at_743) rfl rfl rfl ?_
  refine Go.step (fun t k => XS.bipush X126.here hx rfl (hb hby at_745)  k) ?_
  show Go p e below _ (T126.setTop (mkF m 747 _ [(.int (19 : Int32)), (.ref b88)]))
  refine Go.step (fun t k => XS.bipush X126.here hx rfl (hb hby at_747)  k) ?_
  show Go p e below _ (T126.setTop (mkF m 749 _ [(.int (19 : Int32)), (.int (19 : Int32)), (.ref b88)]))
  refine gB (q := 751) X126 hx (hb hby at_749) rfl rfl rfl ?_
  refine Go.step (fun t k => XS.lload X126.here hx rfl (hb hby at_751) rfl k) ?_
  show Go p e below _ (T126.setTop (mkF m 753 _ [(.long v42), (.ref b71), (.int (19 : Int32)), (.int (19 : Int32)), (.ref b88)]))
  refine gB (q := 755) X126 hx (hb hby at_753) rfl rfl rfl ?_
  obtain ⟨_, _, ⟨T127, L127, k127, n127⟩, -, X127, ⟨Lc127, hQ127, l127, y127, z127⟩, st127⟩ := Jvm.LawKit.callS X126 hx (y := (⟨"com/example/biller/biller/files/PlainValueReadPinLaw", "at", "(I[IJ[J)B"⟩ : MethodName)) hown (mvT hZ (hw _ (List.mem_of_getElem? (i := 22) rfl))) (mvT hZ (hw _ (List.mem_of_getElem? (i := 23) rfl))) (mvT hZ (hw _ (List.mem_of_getElem? (i := 24) rfl))) (mvT hZ (hw _ (List.mem_of_getElem? (i := 25) rfl))) (by decide) (backOf (W := 2) (rm1 l Z a0 hw [] (19 : Int32) b71 v42 b4 gs h126 n0 Z126 (hW : AtW gs) A_b71_126 A_b4_126) hZ (hw _ (List.mem_of_getElem? (i := 25) rfl)) (hw _ (List.mem_of_getElem? (i := 24) rfl)) (by decide) (by decide)) (g := (mkF m 755 #[.val (.long q1), .second, .val (.int p2), .val (.int p3), .val (.ref b4), .val (.int v24), .val (.int v26), .val (.int v29), .val (.int v31), .val (.int v32), .val (.int v34), .val (.int v36), .val (.int v37), .val (.int v38), .val (.int v39), .val (.long v40), .second, .val (.long v42), .second, .val (.int v45), .val (.int v50), .val (.int v65), .val (.int v69), .val (.ref b71), .val (.ref b88), .unset, .unset, .unset, .unset] [(.ref b4), (.long v42), (.ref b71), (.int (19 : Int32)), (.int (19 : Int32)), (.ref b88)])) rfl (by rw [hml]; rfl) (argsL := [(.int (19 : Int32)), (.ref b71), (.long v42), (.ref b4)]) (rest := [(.int (19 : Int32)), (.ref b88)]) (lenOf pd_0 rfl) rfl (by show 2 * 0 + _ ≤ _; exact Nat.le_of_eq rfl) (hb hby at_755) (fun _ _ => ⟨rfl, e126, (by decide : 3 + 0 ≤ _), (by decide : 55 + 0 ≤ _)⟩)
  dsimp only [Pt.U, Pt.locs, Pt.cells, Pt.slots] at X127 l127 y127 z127 st127 hQ127
  replace y127 : k127 = 3 := y127
  replace z127 : n127 = 55 := z127
  subst y127 z127
  obtain ⟨rfl, N127q, e127⟩ := hQ127
  have N127 : Fr n0 L127 := Eq.mpr (congrArg (Fr n0) l127) (Fr.app N126 N127q)
  refine Go.step st127 ?_
  show Go p e below _ (T127.setTop (mkF m 758 _ [(.int (f1 (19 : Int32) v42 gs)), (.int (19 : Int32)), (.ref b88)]))
  obtain ⟨cl128, Ar128, in128, -⟩ := A_b88_126.hin (j := (19 : Int32)) (by decide) (by decide)
  obtain ⟨T128, h128, X128, e128, W128, st128⟩ := stB X127 hx hZ e127 Ar128 in128 (g := (mkF m 758 #[.val (.long q1), .second, .val (.int p2), .val (.int p3), .val (.ref b4), .val (.int v24), .val (.int v26), .val (.int v29), .val (.int v31), .val (.int v32), .val (.int v34), .val (.int v36), .val (.int v37), .val (.int v38), .val (.int v39), .val (.long v40), .second, .val (.long v42), .second, .val (.int v45), .val (.int v50), .val (.int v65), .val (.int v69), .val (.ref b71), .val (.ref b88), .unset, .unset, .unset, .unset] [(.int (f1 (19 : Int32) v42 gs)), (.int (19 : Int32)), (.ref b88)])) rfl rfl (hb hby at_758)
  refine Go.step st128 ?_
  have N128 := Fr.snoc X128 N127 g_b88
  have A_b4_128 := A_b4_126.other W128 ne_b4_b88
  have A_b71_128 := A_b71_126.other W128 ne_b71_b88
  have Z128 := Nat.le_trans Z126 (Keep.of_wr W128).1
  have KK128 : Keep h0 h128 [] := KK126.wr W128 (Or.inr sz_b88)
  have A_b88_128 : Ary Z h128 b88 .byte 26 (fun i => .int ((tK v42 gs 20) i)) := by exact (A_b88_126.setI W128 (by decide)).congr fun i _ => congrArg Value.int (tK_S _ _ _ (by decide) i)
  show Go p e below _ (T128.setTop (mkF m 759 _ []))
  refine gB (q := 761) X128 hx (hb hby at_759) rfl rfl rfl ?_
  refine Go.step (fun t k => XS.bipush X128.here hx rfl (hb hby at_761)  k) ?_
  show Go p e below _ (T128.setTop (mkF m 763 _ [(.int (20 : Int32)), (.ref b88)]))
  refine Go.step (fun t k => XS.bipush X128.here hx rfl (hb hby at_763)  k) ?_
  show Go p e below _ (T128.setTop (mkF m 765 _ [(.int (20 : Int32)), (.int (20 : Int32)), (.ref b88)]))
  refine gB (q := 767) X128 hx (hb hby at_765) rfl rfl rfl ?_
  refine Go.step (fun t k => XS.lload X128.here hx rfl (hb hby at_767) rfl k) ?_
  show Go p e below _ (T128.setTop (mkF m 769 _ [(.long v42), (.ref b71), (.int (20 : Int32)), (.int (20 : Int32)), (.ref b88)]))
  refine gB (q := 771) X128 hx (hb hby at_769) rfl rfl rfl ?_
  obtain ⟨_, _, ⟨T129, L129, k129, n129⟩, -, X129, ⟨Lc129, hQ129, l129, y129, z129⟩, st129⟩ := Jvm.LawKit.callS X128 hx (y := (⟨"com/example/biller/biller/files/PlainValueReadPinLaw", "at", "(I[IJ[J)B"⟩ : MethodName)) hown (mvT hZ (hw _ (List.mem_of_getElem? (i := 22) rfl))) (mvT hZ (hw _ (List.mem_of_getElem? (i := 23) rfl))) (mvT hZ (hw _ (List.mem_of_getElem? (i := 24) rfl))) (mvT hZ (hw _ (List.mem_of_getElem? (i := 25) rfl))) (by decide) (backOf (W := 2) (rm1 l Z a0 hw [] (20 : Int32) b71 v42 b4 gs h128 n0 Z128 (hW : AtW gs) A_b71_128 A_b4_128) hZ (hw _ (List.mem_of_getElem? (i := 25) rfl)) (hw _ (List.mem_of_getElem? (i := 24) rfl)) (by decide) (by decide)) (g := (mkF m 771 #[.val (.long q1), .second, .val (.int p2), .val (.int p3), .val (.ref b4), .val (.int v24), .val (.int v26), .val (.int v29), .val (.int v31), .val (.int v32), .val (.int v34), .val (.int v36), .val (.int v37), .val (.int v38), .val (.int v39), .val (.long v40), .second, .val (.long v42), .second, .val (.int v45), .val (.int v50), .val (.int v65), .val (.int v69), .val (.ref b71), .val (.ref b88), .unset, .unset, .unset, .unset] [(.ref b4), (.long v42), (.ref b71), (.int (20 : Int32)), (.int (20 : Int32)), (.ref b88)])) rfl (by rw [hml]; rfl) (argsL := [(.int (20 : Int32)), (.ref b71), (.long v42), (.ref b4)]) (rest := [(.int (20 : Int32)), (.ref b88)]) (lenOf pd_0 rfl) rfl (by show 2 * 0 + _ ≤ _; exact Nat.le_of_eq rfl) (hb hby at_771) (fun _ _ => ⟨rfl, e128, (by decide : 3 + 0 ≤ _), (by decide : 55 + 0 ≤ _)⟩)
  dsimp only [Pt.U, Pt.locs, Pt.cells, Pt.slots] at X129 l129 y129 z129 st129 hQ129
  replace y129 : k129 = 3 := y129
  replace z129 : n129 = 55 := z129
  subst y129 z129
  obtain ⟨rfl, N129q, e129⟩ := hQ129
  have N129 : Fr n0 L129 := Eq.mpr (congrArg (Fr n0) l129) (Fr.app N128 N129q)
  refine Go.step st129 ?_
  show Go p e below _ (T129.setTop (mkF m 774 _ [(.int (f1 (20 : Int32) v42 gs)), (.int (20 : Int32)), (.ref b88)]))
  obtain ⟨cl130, Ar130, in130, -⟩ := A_b88_128.hin (j := (20 : Int32)) (by decide) (by decide)
  obtain ⟨T130, h130, X130, e130, W130, st130⟩ := stB X129 hx hZ e129 Ar130 in130 (g := (mkF m 774 #[.val (.long q1), .second, .val (.int p2), .val (.int p3), .val (.ref b4), .val (.int v24), .val (.int v26), .val (.int v29), .val (.int v31), .val (.int v32), .val (.int v34), .val (.int v36), .val (.int v37), .val (.int v38), .val (.int v39), .val (.long v40), .second, .val (.long v42), .second, .val (.int v45), .val (.int v50), .val (.int v65), .val (.int v69), .val (.ref b71), .val (.ref b88), .unset, .unset, .unset, .unset] [(.int (f1 (20 : Int32) v42 gs)), (.int (20 : Int32)), (.ref b88)])) rfl rfl (hb hby at_774)
  refine Go.step st130 ?_
  have N130 := Fr.snoc X130 N129 g_b88
  have A_b4_130 := A_b4_128.other W130 ne_b4_b88
  have A_b71_130 := A_b71_128.other W130 ne_b71_b88
  have Z130 := Nat.le_trans Z128 (Keep.of_wr W130).1
  have KK130 : Keep h0 h130 [] := KK128.wr W130 (Or.inr sz_b88)
  have A_b88_130 : Ary Z h130 b88 .byte 26 (fun i => .int ((tK v42 gs 21) i)) := by exact (A_b88_128.setI W130 (by decide)).congr fun i _ => congrArg Value.int (tK_S _ _ _ (by decide) i)
  show Go p e below _ (T130.setTop (mkF m 775 _ []))
  refine gB (q := 777) X130 hx (hb hby at_775) rfl rfl rfl ?_
  refine Go.step (fun t k => XS.bipush X130.here hx rfl (hb hby at_777)  k) ?_
  show Go p e below _ (T130.setTop (mkF m 779 _ [(.int (21 : Int32)), (.ref b88)]))
  refine Go.step (fun t k => XS.bipush X130.here hx rfl (hb hby at_779)  k) ?_
  show Go p e below _ (T130.setTop (mkF m 781 _ [(.int (21 : Int32)), (.int (21 : Int32)), (.ref b88)]))
  refine gB (q := 783) X130 hx (hb hby at_781) rfl rfl rfl ?_
  refine Go.step (fun t k => XS.lload X130.here hx rfl (hb hby at_783) rfl k) ?_
  show Go p e below _ (T130.setTop (mkF m 785 _ [(.long v42), (.ref b71), (.int (21 : Int32)), (.int (21 : Int32)), (.ref b88)]))
  refine gB (q := 787) X130 hx (hb hby at_785) rfl rfl rfl ?_
  obtain ⟨_, _, ⟨T131, L131, k131, n131⟩, -, X131, ⟨Lc131, hQ131, l131, y131, z131⟩, st131⟩ := Jvm.LawKit.callS X130 hx (y := (⟨"com/example/biller/biller/files/PlainValueReadPinLaw", "at", "(I[IJ[J)B"⟩ : MethodName)) hown (mvT hZ (hw _ (List.mem_of_getElem? (i := 22) rfl))) (mvT hZ (hw _ (List.mem_of_getElem? (i := 23) rfl))) (mvT hZ (hw _ (List.mem_of_getElem? (i := 24) rfl))) (mvT hZ (hw _ (List.mem_of_getElem? (i := 25) rfl))) (by decide) (backOf (W := 2) (rm1 l Z a0 hw [] (21 : Int32) b71 v42 b4 gs h130 n0 Z130 (hW : AtW gs) A_b71_130 A_b4_130) hZ (hw _ (List.mem_of_getElem? (i := 25) rfl)) (hw _ (List.mem_of_getElem? (i := 24) rfl)) (by decide) (by decide)) (g := (mkF m 787 #[.val (.long q1), .second, .val (.int p2), .val (.int p3), .val (.ref b4), .val (.int v24), .val (.int v26), .val (.int v29), .val (.int v31), .val (.int v32), .val (.int v34), .val (.int v36), .val (.int v37), .val (.int v38), .val (.int v39), .val (.long v40), .second, .val (.long v42), .second, .val (.int v45), .val (.int v50), .val (.int v65), .val (.int v69), .val (.ref b71), .val (.ref b88), .unset, .unset, .unset, .unset] [(.ref b4), (.long v42), (.ref b71), (.int (21 : Int32)), (.int (21 : Int32)), (.ref b88)])) rfl (by rw [hml]; rfl) (argsL := [(.int (21 : Int32)), (.ref b71), (.long v42), (.ref b4)]) (rest := [(.int (21 : Int32)), (.ref b88)]) (lenOf pd_0 rfl) rfl (by show 2 * 0 + _ ≤ _; exact Nat.le_of_eq rfl) (hb hby at_787) (fun _ _ => ⟨rfl, e130, (by decide : 3 + 0 ≤ _), (by decide : 55 + 0 ≤ _)⟩)
  dsimp only [Pt.U, Pt.locs, Pt.cells, Pt.slots] at X131 l131 y131 z131 st131 hQ131
  replace y131 : k131 = 3 := y131
  replace z131 : n131 = 55 := z131
  subst y131 z131
  obtain ⟨rfl, N131q, e131⟩ := hQ131
  have N131 : Fr n0 L131 := Eq.mpr (congrArg (Fr n0) l131) (Fr.app N130 N131q)
  refine Go.step st131 ?_
  show Go p e below _ (T131.setTop (mkF m 790 _ [(.int (f1 (21 : Int32) v42 gs)), (.int (21 : Int32)), (.ref b88)]))
  obtain ⟨cl132, Ar132, in132, -⟩ := A_b88_130.hin (j := (21 : Int32)) (by decide) (by decide)
  obtain ⟨T132, h132, X132, e132, W132, st132⟩ := stB X131 hx hZ e131 Ar132 in132 (g := (mkF m 790 #[.val (.long q1), .second, .val (.int p2), .val (.int p3), .val (.ref b4), .val (.int v24), .val (.int v26), .val (.int v29), .val (.int v31), .val (.int v32), .val (.int v34), .val (.int v36), .val (.int v37), .val (.int v38), .val (.int v39), .val (.long v40), .second, .val (.long v42), .second, .val (.int v45), .val (.int v50), .val (.int v65), .val (.int v69), .val (.ref b71), .val (.ref b88), .unset, .unset, .unset, .unset] [(.int (f1 (21 : Int32) v42 gs)), (.int (21 : Int32)), (.ref b88)])) rfl rfl (hb hby at_790)
  refine Go.step st132 ?_
  have N132 := Fr.snoc X132 N131 g_b88
  have A_b4_132 := A_b4_130.other W132 ne_b4_b88
  have A_b71_132 := A_b71_130.other W132 ne_b71_b88
  have Z132 := Nat.le_trans Z130 (Keep.of_wr W132).1
  have KK132 : Keep h0 h132 [] := KK130.wr W132 (Or.inr sz_b88)
  have A_b88_132 : Ary Z h132 b88 .byte 26 (fun i => .int ((tK v42 gs 22) i)) := by exact (A_b88_130.setI W132 (by decide)).congr fun i _ => congrArg Value.int (tK_S _ _ _ (by decide) i)
  show Go p e below _ (T132.setTop (mkF m 791 _ []))
  refine gB (q := 793) X132 hx (hb hby at_791) rfl rfl rfl ?_
  refine Go.step (fun t k => XS.bipush X132.here hx rfl (hb hby at_793)  k) ?_
  show Go p e below _ (T132.setTop (mkF m 795 _ [(.int (22 : Int32)), (.ref b88)]))
  refine Go.step (fun t k => XS.bipush X132.here hx rfl (hb hby at_795)  k) ?_
  show Go p e below _ (T132.setTop (mkF m 797 _ [(.int (22 : Int32)), (.int (22 : Int32)), (.ref b88)]))
  refine gB (q := 799) X132 hx (hb hby at_797) rfl rfl rfl ?_
  refine Go.step (fun t k => XS.lload X132.here hx rfl (hb hby at_799) rfl k) ?_
  show Go p e below _ (T132.setTop (mkF m 801 _ [(.long v42), (.ref b71), (.int (22 : Int32)), (.int (22 : Int32)), (.ref b88)]))
  refine gB (q := 803) X132 hx (hb hby at_801) rfl rfl rfl ?_
  obtain ⟨_, _, ⟨T133, L133, k133, n133⟩, -, X133, ⟨Lc133, hQ133, l133, y133, z133⟩, st133⟩ := Jvm.LawKit.callS X132 hx (y := (⟨"com/example/biller/biller/files/PlainValueReadPinLaw", "at", "(I[IJ[J)B"⟩ : MethodName)) hown (mvT hZ (hw _ (List.mem_of_getElem? (i := 22) rfl))) (mvT hZ (hw _ (List.mem_of_getElem? (i := 23) rfl))) (mvT hZ (hw _ (List.mem_of_getElem? (i := 24) rfl))) (mvT hZ (hw _ (List.mem_of_getElem? (i := 25) rfl))) (by decide) (backOf (W := 2) (rm1 l Z a0 hw [] (22 : Int32) b71 v42 b4 gs h132 n0 Z132 (hW : AtW gs) A_b71_132 A_b4_132) hZ (hw _ (List.mem_of_getElem? (i := 25) rfl)) (hw _ (List.mem_of_getElem? (i := 24) rfl)) (by decide) (by decide)) (g := (mkF m 803 #[.val (.long q1), .second, .val (.int p2), .val (.int p3), .val (.ref b4), .val (.int v24), .val (.int v26), .val (.int v29), .val (.int v31), .val (.int v32), .val (.int v34), .val (.int v36), .val (.int v37), .val (.int v38), .val (.int v39), .val (.long v40), .second, .val (.long v42), .second, .val (.int v45), .val (.int v50), .val (.int v65), .val (.int v69), .val (.ref b71), .val (.ref b88), .unset, .unset, .unset, .unset] [(.ref b4), (.long v42), (.ref b71), (.int (22 : Int32)), (.int (22 : Int32)), (.ref b88)])) rfl (by rw [hml]; rfl) (argsL := [(.int (22 : Int32)), (.ref b71), (.long v42), (.ref b4)]) (rest := [(.int (22 : Int32)), (.ref b88)]) (lenOf pd_0 rfl) rfl (by show 2 * 0 + _ ≤ _; exact Nat.le_of_eq rfl) (hb hby at_803) (fun _ _ => ⟨rfl, e132, (by decide : 3 + 0 ≤ _), (by decide : 55 + 0 ≤ _)⟩)
  dsimp only [Pt.U, Pt.locs, Pt.cells, Pt.slots] at X133 l133 y133 z133 st133 hQ133
  replace y133 : k133 = 3 := y133
  replace z133 : n133 = 55 := z133
  subst y133 z133
  obtain ⟨rfl, N133q, e133⟩ := hQ133
  have N133 : Fr n0 L133 := Eq.mpr (congrArg (Fr n0) l133) (Fr.app N132 N133q)
  refine Go.step st133 ?_
  show Go p e below _ (T133.setTop (mkF m 806 _ [(.int (f1 (22 : Int32) v42 gs)), (.int (22 : Int32)), (.ref b88)]))
  obtain ⟨cl134, Ar134, in134, -⟩ := A_b88_132.hin (j := (22 : Int32)) (by decide) (by decide)
  obtain ⟨T134, h134, X134, e134, W134, st134⟩ := stB X133 hx hZ e133 Ar134 in134 (g := (mkF m 806 #[.val (.long q1), .second, .val (.int p2), .val (.int p3), .val (.ref b4), .val (.int v24), .val (.int v26), .val (.int v29), .val (.int v31), .val (.int v32), .val (.int v34), .val (.int v36), .val (.int v37), .val (.int v38), .val (.int v39), .val (.long v40), .second, .val (.long v42), .second, .val (.int v45), .val (.int v50), .val (.int v65), .val (.int v69), .val (.ref b71), .val (.ref b88), .unset, .unset, .unset, .unset] [(.int (f1 (22 : Int32) v42 gs)), (.int (22 : Int32)), (.ref b88)])) rfl rfl (hb hby at_806)
  refine Go.step st134 ?_
  have N134 := Fr.snoc X134 N133 g_b88
  have A_b4_134 := A_b4_132.other W134 ne_b4_b88
  have A_b71_134 := A_b71_132.other W134 ne_b71_b88
  have Z134 := Nat.le_trans Z132 (Keep.of_wr W134).1
  have KK134 : Keep h0 h134 [] := KK132.wr W134 (Or.inr sz_b88)
  have A_b88_134 : Ary Z h134 b88 .byte 26 (fun i => .int ((tK v42 gs 23) i)) := by exact (A_b88_132.setI W134 (by decide)).congr fun i _ => congrArg Value.int (tK_S _ _ _ (by decide) i)
  show Go p e below _ (T134.setTop (mkF m 807 _ []))
  refine gB (q := 809) X134 hx (hb hby at_807) rfl rfl rfl ?_
  refine Go.step (fun t k => XS.bipush X134.here hx rfl (hb hby at_809)  k) ?_
  show Go p e below _ (T134.setTop (mkF m 811 _ [(.int (23 : Int32)), (.ref b88)]))
  refine Go.step (fun t k => XS.bipush X134.here hx rfl (hb hby at_811)  k) ?_
  show Go p e below _ (T134.setTop (mkF m 813 _ [(.int (23 : Int32)), (.int (23 : Int32)), (.ref b88)]))
  refine gB (q := 815) X134 hx (hb hby at_813) rfl rfl rfl ?_
  refine Go.step (fun t k => XS.lload X134.here hx rfl (hb hby at_815) rfl k) ?_
  show Go p e below _ (T134.setTop (mkF m 817 _ [(.long v42), (.ref b71), (.int (23 : Int32)), (.int (23 : Int32)), (.ref b88)]))
  refine gB (q := 819) X134 hx (hb hby at_817) rfl rfl rfl ?_
  obtain ⟨_, _, ⟨T135, L135, k135, n135⟩, -, X135, ⟨Lc135, hQ135, l135, y135, z135⟩, st135⟩ := Jvm.LawKit.callS X134 hx (y := (⟨"com/example/biller/biller/files/PlainValueReadPinLaw", "at", "(I[IJ[J)B"⟩ : MethodName)) hown (mvT hZ (hw _ (List.mem_of_getElem? (i := 22) rfl))) (mvT hZ (hw _ (List.mem_of_getElem? (i := 23) rfl))) (mvT hZ (hw _ (List.mem_of_getElem? (i := 24) rfl))) (mvT hZ (hw _ (List.mem_of_getElem? (i := 25) rfl))) (by decide) (backOf (W := 2) (rm1 l Z a0 hw [] (23 : Int32) b71 v42 b4 gs h134 n0 Z134 (hW : AtW gs) A_b71_134 A_b4_134) hZ (hw _ (List.mem_of_getElem? (i := 25) rfl)) (hw _ (List.mem_of_getElem? (i := 24) rfl)) (by decide) (by decide)) (g := (mkF m 819 #[.val (.long q1), .second, .val (.int p2), .val (.int p3), .val (.ref b4), .val (.int v24), .val (.int v26), .val (.int v29), .val (.int v31), .val (.int v32), .val (.int v34), .val (.int v36), .val (.int v37), .val (.int v38), .val (.int v39), .val (.long v40), .second, .val (.long v42), .second, .val (.int v45), .val (.int v50), .val (.int v65), .val (.int v69), .val (.ref b71), .val (.ref b88), .unset, .unset, .unset, .unset] [(.ref b4), (.long v42), (.ref b71), (.int (23 : Int32)), (.int (23 : Int32)), (.ref b88)])) rfl (by rw [hml]; rfl) (argsL := [(.int (23 : Int32)), (.ref b71), (.long v42), (.ref b4)]) (rest := [(.int (23 : Int32)), (.ref b88)]) (lenOf pd_0 rfl) rfl (by show 2 * 0 + _ ≤ _; exact Nat.le_of_eq rfl) (hb hby at_819) (fun _ _ => ⟨rfl, e134, (by decide : 3 + 0 ≤ _), (by decide : 55 + 0 ≤ _)⟩)
  dsimp only [Pt.U, Pt.locs, Pt.cells, Pt.slots] at X135 l135 y135 z135 st135 hQ135
  replace y135 : k135 = 3 := y135
  replace z135 : n135 = 55 := z135
  subst y135 z135
  obtain ⟨rfl, N135q, e135⟩ := hQ135
  have N135 : Fr n0 L135 := Eq.mpr (congrArg (Fr n0) l135) (Fr.app N134 N135q)
  refine Go.step st135 ?_
  show Go p e below _ (T135.setTop (mkF m 822 _ [(.int (f1 (23 : Int32) v42 gs)), (.int (23 : Int32)), (.ref b88)]))
  obtain ⟨cl136, Ar136, in136, -⟩ := A_b88_134.hin (j := (23 : Int32)) (by decide) (by decide)
  obtain ⟨T136, h136, X136, e136, W136, st136⟩ := stB X135 hx hZ e135 Ar136 in136 (g := (mkF m 822 #[.val (.long q1), .second, .val (.int p2), .val (.int p3), .val (.ref b4), .val (.int v24), .val (.int v26), .val (.int v29), .val (.int v31), .val (.int v32), .val (.int v34), .val (.int v36), .val (.int v37), .val (.int v38), .val (.int v39), .val (.long v40), .second, .val (.long v42), .second, .val (.int v45), .val (.int v50), .val (.int v65), .val (.int v69), .val (.ref b71), .val (.ref b88), .unset, .unset, .unset, .unset] [(.int (f1 (23 : Int32) v42 gs)), (.int (23 : Int32)), (.ref b88)])) rfl rfl (hb hby at_822)
  refine Go.step st136 ?_
  have N136 := Fr.snoc X136 N135 g_b88
  have A_b4_136 := A_b4_134.other W136 ne_b4_b88
  have A_b71_136 := A_b71_134.other W136 ne_b71_b88
  have Z136 := Nat.le_trans Z134 (Keep.of_wr W136).1
  have KK136 : Keep h0 h136 [] := KK134.wr W136 (Or.inr sz_b88)
  have A_b88_136 : Ary Z h136 b88 .byte 26 (fun i => .int ((tK v42 gs 24) i)) := by exact (A_b88_134.setI W136 (by decide)).congr fun i _ => congrArg Value.int (tK_S _ _ _ (by decide) i)
  show Go p e below _ (T136.setTop (mkF m 823 _ []))
  refine gB (q := 825) X136 hx (hb hby at_823) rfl rfl rfl ?_
  refine Go.step (fun t k => XS.bipush X136.here hx rfl (hb hby at_825)  k) ?_
  show Go p e below _ (T136.setTop (mkF m 827 _ [(.int (24 : Int32)), (.ref b88)]))
  refine Go.step (fun t k => XS.bipush X136.here hx rfl (hb hby at_827)  k) ?_
  show Go p e below _ (T136.setTop (mkF m 829 _ [(.int (24 : Int32)), (.int (24 : Int32)), (.ref b88)]))
  refine gB (q := 831) X136 hx (hb hby at_829) rfl rfl rfl ?_
  refine Go.step (fun t k => XS.lload X136.here hx rfl (hb hby at_831) rfl k) ?_
  show Go p e below _ (T136.setTop (mkF m 833 _ [(.long v42), (.ref b71), (.int (24 : Int32)), (.int (24 : Int32)), (.ref b88)]))
  refine gB (q := 835) X136 hx (hb hby at_833) rfl rfl rfl ?_
  obtain ⟨_, _, ⟨T137, L137, k137, n137⟩, -, X137, ⟨Lc137, hQ137, l137, y137, z137⟩, st137⟩ := Jvm.LawKit.callS X136 hx (y := (⟨"com/example/biller/biller/files/PlainValueReadPinLaw", "at", "(I[IJ[J)B"⟩ : MethodName)) hown (mvT hZ (hw _ (List.mem_of_getElem? (i := 22) rfl))) (mvT hZ (hw _ (List.mem_of_getElem? (i := 23) rfl))) (mvT hZ (hw _ (List.mem_of_getElem? (i := 24) rfl))) (mvT hZ (hw _ (List.mem_of_getElem? (i := 25) rfl))) (by decide) (backOf (W := 2) (rm1 l Z a0 hw [] (24 : Int32) b71 v42 b4 gs h136 n0 Z136 (hW : AtW gs) A_b71_136 A_b4_136) hZ (hw _ (List.mem_of_getElem? (i := 25) rfl)) (hw _ (List.mem_of_getElem? (i := 24) rfl)) (by decide) (by decide)) (g := (mkF m 835 #[.val (.long q1), .second, .val (.int p2), .val (.int p3), .val (.ref b4), .val (.int v24), .val (.int v26), .val (.int v29), .val (.int v31), .val (.int v32), .val (.int v34), .val (.int v36), .val (.int v37), .val (.int v38), .val (.int v39), .val (.long v40), .second, .val (.long v42), .second, .val (.int v45), .val (.int v50), .val (.int v65), .val (.int v69), .val (.ref b71), .val (.ref b88), .unset, .unset, .unset, .unset] [(.ref b4), (.long v42), (.ref b71), (.int (24 : Int32)), (.int (24 : Int32)), (.ref b88)])) rfl (by rw [hml]; rfl) (argsL := [(.int (24 : Int32)), (.ref b71), (.long v42), (.ref b4)]) (rest := [(.int (24 : Int32)), (.ref b88)]) (lenOf pd_0 rfl) rfl (by show 2 * 0 + _ ≤ _; exact Nat.le_of_eq rfl) (hb hby at_835) (fun _ _ => ⟨rfl, e136, (by decide : 3 + 0 ≤ _), (by decide : 55 + 0 ≤ _)⟩)
  dsimp only [Pt.U, Pt.locs, Pt.cells, Pt.slots] at X137 l137 y137 z137 st137 hQ137
  replace y137 : k137 = 3 := y137
  replace z137 : n137 = 55 := z137
  subst y137 z137
  obtain ⟨rfl, N137q, e137⟩ := hQ137
  have N137 : Fr n0 L137 := Eq.mpr (congrArg (Fr n0) l137) (Fr.app N136 N137q)
  refine Go.step st137 ?_
  show Go p e below _ (T137.setTop (mkF m 838 _ [(.int (f1 (24 : Int32) v42 gs)), (.int (24 : Int32)), (.ref b88)]))
  obtain ⟨cl138, Ar138, in138, -⟩ := A_b88_136.hin (j := (24 : Int32)) (by decide) (by decide)
  obtain ⟨T138, h138, X138, e138, W138, st138⟩ := stB X137 hx hZ e137 Ar138 in138 (g := (mkF m 838 #[.val (.long q1), .second, .val (.int p2), .val (.int p3), .val (.ref b4), .val (.int v24), .val (.int v26), .val (.int v29), .val (.int v31), .val (.int v32), .val (.int v34), .val (.int v36), .val (.int v37), .val (.int v38), .val (.int v39), .val (.long v40), .second, .val (.long v42), .second, .val (.int v45), .val (.int v50), .val (.int v65), .val (.int v69), .val (.ref b71), .val (.ref b88), .unset, .unset, .unset, .unset] [(.int (f1 (24 : Int32) v42 gs)), (.int (24 : Int32)), (.ref b88)])) rfl rfl (hb hby at_838)
  refine Go.step st138 ?_
  have N138 := Fr.snoc X138 N137 g_b88
  have A_b4_138 := A_b4_136.other W138 ne_b4_b88
  have A_b71_138 := A_b71_136.other W138 ne_b71_b88
  have Z138 := Nat.le_trans Z136 (Keep.of_wr W138).1
  have KK138 : Keep h0 h138 [] := KK136.wr W138 (Or.inr sz_b88)
  have A_b88_138 : Ary Z h138 b88 .byte 26 (fun i => .int ((tK v42 gs 25) i)) := by exact (A_b88_136.setI W138 (by decide)).congr fun i _ => congrArg Value.int (tK_S _ _ _ (by decide) i)
  show Go p e below _ (T138.setTop (mkF m 839 _ []))
  refine gB (q := 841) X138 hx (hb hby at_839) rfl rfl rfl ?_
  refine Go.step (fun t k => XS.bipush X138.here hx rfl (hb hby at_841)  k) ?_
  show Go p e below _ (T138.setTop (mkF m 843 _ [(.int (25 : Int32)), (.ref b88)]))
  refine Go.step (fun t k => XS.bipush X138.here hx rfl (hb hby at_843)  k) ?_
  show Go p e below _ (T138.setTop (mkF m 845 _ [(.int (25 : Int32)), (.int (25 : Int32)), (.ref b88)]))
  refine gB (q := 847) X138 hx (hb hby at_845) rfl rfl rfl ?_
  refine Go.step (fun t k => XS.lload X138.here hx rfl (hb hby at_847) rfl k) ?_
  show Go p e below _ (T138.setTop (mkF m 849 _ [(.long v42), (.ref b71), (.int (25 : Int32)), (.int (25 : Int32)), (.ref b88)]))
  refine gB (q := 851) X138 hx (hb hby at_849) rfl rfl rfl ?_
  obtain ⟨_, _, ⟨T139, L139, k139, n139⟩, -, X139, ⟨Lc139, hQ139, l139, y139, z139⟩, st139⟩ := Jvm.LawKit.callS X138 hx (y := (⟨"com/example/biller/biller/files/PlainValueReadPinLaw", "at", "(I[IJ[J)B"⟩ : MethodName)) hown (mvT hZ (hw _ (List.mem_of_getElem? (i := 22) rfl))) (mvT hZ (hw _ (List.mem_of_getElem? (i := 23) rfl))) (mvT hZ (hw _ (List.mem_of_getElem? (i := 24) rfl))) (mvT hZ (hw _ (List.mem_of_getElem? (i := 25) rfl))) (by decide) (backOf (W := 2) (rm1 l Z a0 hw [] (25 : Int32) b71 v42 b4 gs h138 n0 Z138 (hW : AtW gs) A_b71_138 A_b4_138) hZ (hw _ (List.mem_of_getElem? (i := 25) rfl)) (hw _ (List.mem_of_getElem? (i := 24) rfl)) (by decide) (by decide)) (g := (mkF m 851 #[.val (.long q1), .second, .val (.int p2), .val (.int p3), .val (.ref b4), .val (.int v24), .val (.int v26), .val (.int v29), .val (.int v31), .val (.int v32), .val (.int v34), .val (.int v36), .val (.int v37), .val (.int v38), .val (.int v39), .val (.long v40), .second, .val (.long v42), .second, .val (.int v45), .val (.int v50), .val (.int v65), .val (.int v69), .val (.ref b71), .val (.ref b88), .unset, .unset, .unset, .unset] [(.ref b4), (.long v42), (.ref b71), (.int (25 : Int32)), (.int (25 : Int32)), (.ref b88)])) rfl (by rw [hml]; rfl) (argsL := [(.int (25 : Int32)), (.ref b71), (.long v42), (.ref b4)]) (rest := [(.int (25 : Int32)), (.ref b88)]) (lenOf pd_0 rfl) rfl (by show 2 * 0 + _ ≤ _; exact Nat.le_of_eq rfl) (hb hby at_851) (fun _ _ => ⟨rfl, e138, (by decide : 3 + 0 ≤ _), (by decide : 55 + 0 ≤ _)⟩)
  dsimp only [Pt.U, Pt.locs, Pt.cells, Pt.slots] at X139 l139 y139 z139 st139 hQ139
  replace y139 : k139 = 3 := y139
  replace z139 : n139 = 55 := z139
  subst y139 z139
  obtain ⟨rfl, N139q, e139⟩ := hQ139
  have N139 : Fr n0 L139 := Eq.mpr (congrArg (Fr n0) l139) (Fr.app N138 N139q)
  refine Go.step st139 ?_
  show Go p e below _ (T139.setTop (mkF m 854 _ [(.int (f1 (25 : Int32) v42 gs)), (.int (25 : Int32)), (.ref b88)]))
  obtain ⟨cl140, Ar140, in140, -⟩ := A_b88_138.hin (j := (25 : Int32)) (by decide) (by decide)
  obtain ⟨T140, h140, X140, e140, W140, st140⟩ := stB X139 hx hZ e139 Ar140 in140 (g := (mkF m 854 #[.val (.long q1), .second, .val (.int p2), .val (.int p3), .val (.ref b4), .val (.int v24), .val (.int v26), .val (.int v29), .val (.int v31), .val (.int v32), .val (.int v34), .val (.int v36), .val (.int v37), .val (.int v38), .val (.int v39), .val (.long v40), .second, .val (.long v42), .second, .val (.int v45), .val (.int v50), .val (.int v65), .val (.int v69), .val (.ref b71), .val (.ref b88), .unset, .unset, .unset, .unset] [(.int (f1 (25 : Int32) v42 gs)), (.int (25 : Int32)), (.ref b88)])) rfl rfl (hb hby at_854)
  refine Go.step st140 ?_
  have N140 := Fr.snoc X140 N139 g_b88
  have A_b4_140 := A_b4_138.other W140 ne_b4_b88
  have A_b71_140 := A_b71_138.other W140 ne_b71_b88
  have Z140 := Nat.le_trans Z138 (Keep.of_wr W140).1
  have KK140 : Keep h0 h140 [] := KK138.wr W140 (Or.inr sz_b88)
  have A_b88_140 : Ary Z h140 b88 .byte 26 (fun i => .int ((tK v42 gs 26) i)) := by exact (A_b88_138.setI W140 (by decide)).congr fun i _ => congrArg Value.int (tK_S _ _ _ (by decide) i)
  show Go p e below _ (T140.setTop (mkF m 855 _ []))
  refine gC (q := 856) (v := 4) X140 hx (hb hby at_855) rfl rfl ?_
  obtain ⟨T141, h141, k141, X141, e141, E141, A141, st141⟩ := newP X140 hx hZ (hw _ (List.mem_of_getElem? (i := 21) rfl)) e140 (g := (mkF m 856 #[.val (.long q1), .second, .val (.int p2), .val (.int p3), .val (.ref b4), .val (.int v24), .val (.int v26), .val (.int v29), .val (.int v31), .val (.int v32), .val (.int v34), .val (.int v36), .val (.int v37), .val (.int v38), .val (.int v39), .val (.long v40), .second, .val (.long v42), .second, .val (.int v45), .val (.int v50), .val (.int v65), .val (.int v69), .val (.ref b71), .val (.ref b88), .unset, .unset, .unset, .unset] [(.int (4 : Int32))])) rfl (hb hby at_856) rfl (by decide) (cap := 4) (by decide) (by decide) (by decide) (by decide)
  obtain ⟨b141, g141⟩ : ∃ z, z = h140.size := ⟨_, rfl⟩
  rw [← g141] at A141 st141
  have g_b141 : n0 ≤ b141 := Nat.le_trans Z140 (Nat.le_of_eq g141.symm)
  have sz_b141 : h0.size ≤ b141 := Nat.le_trans KK140.1 (Nat.le_of_eq g141.symm)
  have ne_b4_b141 : b4 ≠ b141 := Nat.ne_of_lt (Nat.lt_of_lt_of_le A_b4_140.lt (Nat.le_of_eq g141.symm))
  have ne_b71_b141 : b71 ≠ b141 := Nat.ne_of_lt (Nat.lt_of_lt_of_le A_b71_140.lt (Nat.le_of_eq g141.symm))
  have ne_b88_b141 : b88 ≠ b141 := Nat.ne_of_lt (Nat.lt_of_lt_of_le A_b88_140.lt (Nat.le_of_eq g141.symm))
  refine Go.step st141 ?_
  have A_b4_141 := A_b4_140.ext E141
  have A_b71_141 := A_b71_140.ext E141
  have A_b88_141 := A_b88_140.ext E141
  have Z141 := Nat.le_trans Z140 E141.1
  have KK141 : Keep h0 h141 [] := KK140.ext E141
  have A_b141_141 : Ary Z h141 b141 .byte 4 (fun i => .int ((fun _ => (0 : Int32)) i)) := Ary.mk A141 (by decide) (by decide)
  replace X141 : Stand p l e room_1 s m #[(.long q1), (.int p2), (.int p3)] below meth c T141 _ 4 59 := X141
  show Go p e below _ (T141.setTop (mkF m 858 _ [(.ref b141)]))
  refine Go.step (fun t k => XS.dup X141.here hx rfl (hb hby at_858) rfl rfl k) ?_
  show Go p e below _ (T141.setTop (mkF m 859 _ [(.ref b141), (.ref b141)]))
  refine gC (q := 860) (v := 0) X141 hx (hb hby at_859) rfl rfl ?_
  refine Go.step (fun t k => XS.bipush X141.here hx rfl (hb hby at_860)  k) ?_
  show Go p e below _ (T141.setTop (mkF m 862 _ [(.int (55 : Int32)), (.int (0 : Int32)), (.ref b141), (.ref b141)]))
  obtain ⟨cl142, Ar142, in142, -⟩ := A_b141_141.hin (j := (0 : Int32)) (by decide) (by decide)
  obtain ⟨T142, h142, X142, e142, W142, st142⟩ := stB X141 hx hZ e141 Ar142 in142 (g := (mkF m 862 #[.val (.long q1), .second, .val (.int p2), .val (.int p3), .val (.ref b4), .val (.int v24), .val (.int v26), .val (.int v29), .val (.int v31), .val (.int v32), .val (.int v34), .val (.int v36), .val (.int v37), .val (.int v38), .val (.int v39), .val (.long v40), .second, .val (.long v42), .second, .val (.int v45), .val (.int v50), .val (.int v65), .val (.int v69), .val (.ref b71), .val (.ref b88), .unset, .unset, .unset, .unset] [(.int (55 : Int32)), (.int (0 : Int32)), (.ref b141), (.ref b141)])) rfl rfl (hb hby at_862)
  refine Go.step st142 ?_
  have N142 := Fr.snoc X142 N140 g_b141
  have A_b4_142 := A_b4_141.other W142 ne_b4_b141
  have A_b71_142 := A_b71_141.other W142 ne_b71_b141
  have A_b88_142 := A_b88_141.other W142 ne_b88_b141
  have Z142 := Nat.le_trans Z141 (Keep.of_wr W142).1
  have KK142 : Keep h0 h142 [] := KK141.wr W142 (Or.inr sz_b141)
  have A_b141_142 : Ary Z h142 b141 .byte 4 (fun i => .int ((upA (fun _ => (0 : Int32)) 0 (55 : Int32)) i)) := A_b141_141.setI W142 (by decide)
  show Go p e below _ (T142.setTop (mkF m 863 _ [(.ref b141)]))
  refine Go.step (fun t k => XS.dup X142.here hx rfl (hb hby at_863) rfl rfl k) ?_
  show Go p e below _ (T142.setTop (mkF m 864 _ [(.ref b141), (.ref b141)]))
  refine gC (q := 865) (v := 1) X142 hx (hb hby at_864) rfl rfl ?_
  refine Go.step (fun t k => XS.bipush X142.here hx rfl (hb hby at_865)  k) ?_
  show Go p e below _ (T142.setTop (mkF m 867 _ [(.int (46 : Int32)), (.int (1 : Int32)), (.ref b141), (.ref b141)]))
  obtain ⟨cl143, Ar143, in143, -⟩ := A_b141_142.hin (j := (1 : Int32)) (by decide) (by decide)
  obtain ⟨T143, h143, X143, e143, W143, st143⟩ := stB X142 hx hZ e142 Ar143 in143 (g := (mkF m 867 #[.val (.long q1), .second, .val (.int p2), .val (.int p3), .val (.ref b4), .val (.int v24), .val (.int v26), .val (.int v29), .val (.int v31), .val (.int v32), .val (.int v34), .val (.int v36), .val (.int v37), .val (.int v38), .val (.int v39), .val (.long v40), .second, .val (.long v42), .second, .val (.int v45), .val (.int v50), .val (.int v65), .val (.int v69), .val (.ref b71), .val (.ref b88), .unset, .unset, .unset, .unset] [(.int (46 : Int32)), (.int (1 : Int32)), (.ref b141), (.ref b141)])) rfl rfl (hb hby at_867)
  refine Go.step st143 ?_
  have N143 := Fr.snoc X143 N142 g_b141
  have A_b4_143 := A_b4_142.other W143 ne_b4_b141
  have A_b71_143 := A_b71_142.other W143 ne_b71_b141
  have A_b88_143 := A_b88_142.other W143 ne_b88_b141
  have Z143 := Nat.le_trans Z142 (Keep.of_wr W143).1
  have KK143 : Keep h0 h143 [] := KK142.wr W143 (Or.inr sz_b141)
  have A_b141_143 : Ary Z h143 b141 .byte 4 (fun i => .int ((upA (upA (fun _ => (0 : Int32)) 0 (55 : Int32)) 1 (46 : Int32)) i)) := A_b141_142.setI W143 (by decide)
  show Go p e below _ (T143.setTop (mkF m 868 _ [(.ref b141)]))
  refine Go.step (fun t k => XS.dup X143.here hx rfl (hb hby at_868) rfl rfl k) ?_
  show Go p e below _ (T143.setTop (mkF m 869 _ [(.ref b141), (.ref b141)]))
  refine gC (q := 870) (v := 2) X143 hx (hb hby at_869) rfl rfl ?_
  refine Go.step (fun t k => XS.bipush X143.here hx rfl (hb hby at_870)  k) ?_
  show Go p e below _ (T143.setTop (mkF m 872 _ [(.int (50 : Int32)), (.int (2 : Int32)), (.ref b141), (.ref b141)]))
  obtain ⟨cl144, Ar144, in144, -⟩ := A_b141_143.hin (j := (2 : Int32)) (by decide) (by decide)
  obtain ⟨T144, h144, X144, e144, W144, st144⟩ := stB X143 hx hZ e143 Ar144 in144 (g := (mkF m 872 #[.val (.long q1), .second, .val (.int p2), .val (.int p3), .val (.ref b4), .val (.int v24), .val (.int v26), .val (.int v29), .val (.int v31), .val (.int v32), .val (.int v34), .val (.int v36), .val (.int v37), .val (.int v38), .val (.int v39), .val (.long v40), .second, .val (.long v42), .second, .val (.int v45), .val (.int v50), .val (.int v65), .val (.int v69), .val (.ref b71), .val (.ref b88), .unset, .unset, .unset, .unset] [(.int (50 : Int32)), (.int (2 : Int32)), (.ref b141), (.ref b141)])) rfl rfl (hb hby at_872)
  refine Go.step st144 ?_
  have N144 := Fr.snoc X144 N143 g_b141
  have A_b4_144 := A_b4_143.other W144 ne_b4_b141
  have A_b71_144 := A_b71_143.other W144 ne_b71_b141
  have A_b88_144 := A_b88_143.other W144 ne_b88_b141
  have Z144 := Nat.le_trans Z143 (Keep.of_wr W144).1
  have KK144 : Keep h0 h144 [] := KK143.wr W144 (Or.inr sz_b141)
  have A_b141_144 : Ary Z h144 b141 .byte 4 (fun i => .int ((upA (upA (upA (fun _ => (0 : Int32)) 0 (55 : Int32)) 1 (46 : Int32)) 2 (50 : Int32)) i)) := A_b141_143.setI W144 (by decide)
  show Go p e below _ (T144.setTop (mkF m 873 _ [(.ref b141)]))
  refine Go.step (fun t k => XS.dup X144.here hx rfl (hb hby at_873) rfl rfl k) ?_
  show Go p e below _ (T144.setTop (mkF m 874 _ [(.ref b141), (.ref b141)]))
  refine gC (q := 875) (v := 3) X144 hx (hb hby at_874) rfl rfl ?_
  refine Go.step (fun t k => XS.bipush X144.here hx rfl (hb hby at_875)  k) ?_
  show Go p e below _ (T144.setTop (mkF m 877 _ [(.int (53 : Int32)), (.int (3 : Int32)), (.ref b141), (.ref b141)]))
  obtain ⟨cl145, Ar145, in145, -⟩ := A_b141_144.hin (j := (3 : Int32)) (by decide) (by decide)
  obtain ⟨T145, h145, X145, e145, W145, st145⟩ := stB X144 hx hZ e144 Ar145 in145 (g := (mkF m 877 #[.val (.long q1), .second, .val (.int p2), .val (.int p3), .val (.ref b4), .val (.int v24), .val (.int v26), .val (.int v29), .val (.int v31), .val (.int v32), .val (.int v34), .val (.int v36), .val (.int v37), .val (.int v38), .val (.int v39), .val (.long v40), .second, .val (.long v42), .second, .val (.int v45), .val (.int v50), .val (.int v65), .val (.int v69), .val (.ref b71), .val (.ref b88), .unset, .unset, .unset, .unset] [(.int (53 : Int32)), (.int (3 : Int32)), (.ref b141), (.ref b141)])) rfl rfl (hb hby at_877)
  refine Go.step st145 ?_
  have N145 := Fr.snoc X145 N144 g_b141
  have A_b4_145 := A_b4_144.other W145 ne_b4_b141
  have A_b71_145 := A_b71_144.other W145 ne_b71_b141
  have A_b88_145 := A_b88_144.other W145 ne_b88_b141
  have Z145 := Nat.le_trans Z144 (Keep.of_wr W145).1
  have KK145 : Keep h0 h145 [] := KK144.wr W145 (Or.inr sz_b141)
  have A_b141_145 : Ary Z h145 b141 .byte 4 (fun i => .int ((upA (upA (upA (upA (fun _ => (0 : Int32)) 0 (55 : Int32)) 1 (46 : Int32)) 2 (50 : Int32)) 3 (53 : Int32)) i)) := A_b141_144.setI W145 (by decide)
  show Go p e below _ (T145.setTop (mkF m 878 _ [(.ref b141)]))
  refine Go.step (fun t k => XS.astore X145.here hx rfl (hb hby at_878) rfl rfl (l' := #[.val (.long q1), .second, .val (.int p2), .val (.int p3), .val (.ref b4), .val (.int v24), .val (.int v26), .val (.int v29), .val (.int v31), .val (.int v32), .val (.int v34), .val (.int v36), .val (.int v37), .val (.int v38), .val (.int v39), .val (.long v40), .second, .val (.long v42), .second, .val (.int v45), .val (.int v50), .val (.int v65), .val (.int v69), .val (.ref b71), .val (.ref b88), .val (.ref b141), .unset, .unset, .unset]) rfl k) ?_
  show Go p e below _ (T145.setTop (mkF m 880 _ []))
  obtain ⟨T146, h146, X146, e146, E146, A146, D146, -, st146⟩ := newO X145 hx hZ hown (hw _ (List.mem_of_getElem? (i := 26) rfl)) (hw _ (List.mem_of_getElem? (i := 27) rfl)) (hw _ (List.mem_of_getElem? (i := 28) rfl)) e145 (g := (mkF m 880 #[.val (.long q1), .second, .val (.int p2), .val (.int p3), .val (.ref b4), .val (.int v24), .val (.int v26), .val (.int v29), .val (.int v31), .val (.int v32), .val (.int v34), .val (.int v36), .val (.int v37), .val (.int v38), .val (.int v39), .val (.long v40), .second, .val (.long v42), .second, .val (.int v45), .val (.int v50), .val (.int v65), .val (.int v69), .val (.ref b71), .val (.ref b88), .val (.ref b141), .unset, .unset, .unset] [])) rfl (hb hby at_880) (by decide) (by decide)
  obtain ⟨b146, g146⟩ : ∃ z, z = h145.size := ⟨_, rfl⟩
  rw [← g146] at A146 D146 st146
  have g_b146 : n0 ≤ b146 := Nat.le_trans Z145 (Nat.le_of_eq g146.symm)
  have sz_b146 : h0.size ≤ b146 := Nat.le_trans KK145.1 (Nat.le_of_eq g146.symm)
  have ne_b4_b146 : b4 ≠ b146 := Nat.ne_of_lt (Nat.lt_of_lt_of_le A_b4_145.lt (Nat.le_of_eq g146.symm))
  have ne_b71_b146 : b71 ≠ b146 := Nat.ne_of_lt (Nat.lt_of_lt_of_le A_b71_145.lt (Nat.le_of_eq g146.symm))
  have ne_b88_b146 : b88 ≠ b146 := Nat.ne_of_lt (Nat.lt_of_lt_of_le A_b88_145.lt (Nat.le_of_eq g146.symm))
  have ne_b141_b146 : b141 ≠ b146 := Nat.ne_of_lt (Nat.lt_of_lt_of_le A_b141_145.lt (Nat.le_of_eq g146.symm))
  refine Go.step st146 ?_
  have A_b4_146 := A_b4_145.ext E146
  have A_b71_146 := A_b71_145.ext E146
  have A_b88_146 := A_b88_145.ext E146
  have A_b141_146 := A_b141_145.ext E146
  have Z146 := Nat.le_trans Z145 E146.1
  have KK146 : Keep h0 h146 [] := KK145.ext E146
  have F_unscaled_b146 : Fld Z h146 b146 "com/example/biller/biller/files/PlainValue" "unscaled" "J" (.long (0 : Int64)) := D146 (Or.inl (hw _ (List.mem_of_getElem? (i := 42) rfl))) (ty := .long) (by decide)
  have F_scale_b146 : Fld Z h146 b146 "com/example/biller/biller/files/PlainValue" "scale" "I" (.int (0 : Int32)) := D146 (Or.inl (hw _ (List.mem_of_getElem? (i := 44) rfl))) (ty := .int) (by decide)
  replace X146 : Stand p l e room_1 s m #[(.long q1), (.int p2), (.int p3)] below meth c T146 _ 5 61 := X146
  show Go p e below _ (T146.setTop (mkF m 883 _ [(.ref b146)]))
  refine Go.step (fun t k => XS.dup X146.here hx rfl (hb hby at_883) rfl rfl k) ?_
  show Go p e below _ (T146.setTop (mkF m 884 _ [(.ref b146), (.ref b146)]))
  obtain ⟨_, _, ⟨T147, L147, k147, n147⟩, -, X147, ⟨Lc147, hQ147, l147, y147, z147⟩, st147⟩ := X146.specialBack hx (y := (⟨"com/example/biller/biller/files/PlainValue", "<init>", "()V"⟩ : MethodName)) rfl hown (mvT hZ (hw _ (List.mem_of_getElem? (i := 29) rfl))) (mvT hZ (hw _ (List.mem_of_getElem? (i := 30) rfl))) (mvT hZ (hw _ (List.mem_of_getElem? (i := 31) rfl))) (by decide) (backOf (W := 1) (rm2 l Z a0 hw [] b146 h146 n0 Z146) hZ (hw _ (List.mem_of_getElem? (i := 31) rfl)) (hw _ (List.mem_of_getElem? (i := 28) rfl)) (by decide) (by decide)) (g := (mkF m 884 #[.val (.long q1), .second, .val (.int p2), .val (.int p3), .val (.ref b4), .val (.int v24), .val (.int v26), .val (.int v29), .val (.int v31), .val (.int v32), .val (.int v34), .val (.int v36), .val (.int v37), .val (.int v38), .val (.int v39), .val (.long v40), .second, .val (.long v42), .second, .val (.int v45), .val (.int v50), .val (.int v65), .val (.int v69), .val (.ref b71), .val (.ref b88), .val (.ref b141), .unset, .unset, .unset] [(.ref b146), (.ref b146)])) rfl (by rw [hml]; rfl) (Steps.refl _) (a := b146) (argsL := []) (rest := [(.ref b146)]) (lenOf pd_1 rfl) rfl (by show 2 * 0 + _ ≤ _; exact Nat.le_of_eq rfl) (hb hby at_884) (fun _ _ => ⟨rfl, e146, (by decide : 5 + 0 ≤ _), (by decide : 61 + 0 ≤ _)⟩)
  dsimp only [Pt.U, Pt.locs, Pt.cells, Pt.slots] at X147 l147 y147 z147 st147 hQ147
  replace y147 : k147 = 5 := y147
  replace z147 : n147 = 61 := z147
  subst y147 z147
  obtain ⟨rfl, N147q, e147⟩ := hQ147
  have N147 : Fr n0 L147 := Eq.mpr (congrArg (Fr n0) l147) (Fr.app N145 N147q)
  refine Go.trans st147 ?_
  show Go p e below _ (T147.setTop (mkF m 887 _ [(.ref b146)]))
  refine Go.step (fun t k => XS.astore X147.here hx rfl (hb hby at_887) rfl rfl (l' := #[.val (.long q1), .second, .val (.int p2), .val (.int p3), .val (.ref b4), .val (.int v24), .val (.int v26), .val (.int v29), .val (.int v31), .val (.int v32), .val (.int v34), .val (.int v36), .val (.int v37), .val (.int v38), .val (.int v39), .val (.long v40), .second, .val (.long v42), .second, .val (.int v45), .val (.int v50), .val (.int v65), .val (.int v69), .val (.ref b71), .val (.ref b88), .val (.ref b141), .val (.ref b146), .unset, .unset]) rfl k) ?_
  show Go p e below _ (T147.setTop (mkF m 889 _ []))
  refine gB (q := 891) X147 hx (hb hby at_889) rfl rfl rfl ?_
  refine gB (q := 893) X147 hx (hb hby at_891) rfl rfl rfl ?_
  refine gC (q := 894) (v := 0) X147 hx (hb hby at_893) rfl rfl ?_
  refine gC (q := 895) (v := 4) X147 hx (hb hby at_894) rfl rfl ?_
  obtain ⟨cq148, kq148, q148a, q148b, q148c⟩ := isOf hZ e147 A146
  obtain ⟨_, _, ⟨T148, L148, k148, n148⟩, -, X148, ⟨Lc148, hQ148, l148, y148, z148⟩, st148⟩ := X147.virtualBack hx (y := (⟨"com/example/biller/biller/files/PlainValue", "read", "([BII)I"⟩ : MethodName)) (z := (⟨"com/example/biller/biller/files/PlainValue", "read", "([BII)I"⟩ : MethodName)) hown (mvT hZ (hw _ (List.mem_of_getElem? (i := 35) rfl))) (mvT hZ (hw _ (List.mem_of_getElem? (i := 36) rfl))) (notFace_of_selects (args := #[]) (mvT hZ (hw _ (List.mem_of_getElem? (i := 38) rfl)))) (mvT hZ (hw _ (List.mem_of_getElem? (i := 38) rfl))) (mvT hZ (hw _ (List.mem_of_getElem? (i := 37) rfl))) (by decide) (backOf (W := 0) (rm4_ok l Z a0 hw [] b146 b141 (0 : Int32) (4 : Int32) (4 : Nat) (upA (upA (upA (upA (fun _ => (0 : Int32)) 0 (55 : Int32)) 1 (46 : Int32)) 2 (50 : Int32)) 3 (53 : Int32)) 30 (4 : Int32) (725 : Int64) (1 : Int32) (725 : Int64) (2 : Int32) (.int (0 : Int32)) (.long (0 : Int64)) (.long (0 : Int64)) (.long (0 : Int64)) (.long (0 : Int64)) (.long (0 : Int64)) h146 n0 Z146 (by decide +kernel : (4 : Int32).toInt ≤ (4 : Nat)) (by decide +kernel : 0 ≤ (0 : Int32).toInt) (by decide +kernel : rd (upA (upA (upA (upA (fun _ => (0 : Int32)) 0 (55 : Int32)) 1 (46 : Int32)) 2 (50 : Int32)) 3 (53 : Int32)) (4 : Int32) 30 (rdS (upA (upA (upA (upA (fun _ => (0 : Int32)) 0 (55 : Int32)) 1 (46 : Int32)) 2 (50 : Int32)) 3 (53 : Int32)) (0 : Int32) (4 : Int32)) (0 : Int64) (-1 : Int32) = ((4 : Int32), (725 : Int64), (1 : Int32))) (by decide +kernel : (4 : Int32).toInt ≤ 30) (by decide +kernel : ¬ (dgs (upA (upA (upA (upA (fun _ => (0 : Int32)) 0 (55 : Int32)) 1 (46 : Int32)) 2 (50 : Int32)) 3 (53 : Int32)) (0 : Int32) (4 : Int32) (4 : Int32) (1 : Int32)) < (1 : Int32)) (by decide +kernel : ¬ (18 : Int32) < (dgs (upA (upA (upA (upA (fun _ => (0 : Int32)) 0 (55 : Int32)) 1 (46 : Int32)) 2 (50 : Int32)) 3 (53 : Int32)) (0 : Int32) (4 : Int32) (4 : Int32) (1 : Int32))) (by decide +kernel : (if (rdN (upA (upA (upA (upA (fun _ => (0 : Int32)) 0 (55 : Int32)) 1 (46 : Int32)) 2 (50 : Int32)) 3 (53 : Int32)) (0 : Int32) (4 : Int32)) = (0 : Int32) then (725 : Int64) else (-(725 : Int64))) = (725 : Int64)) (by decide +kernel : (if (1 : Int32) < (0 : Int32) then (0 : Int32) else (((4 : Int32) - (1 : Int32)) - (1 : Int32))) = (2 : Int32)) A_b141_146 F_scale_b146 A146 F_unscaled_b146 g_b146 ne_b141_b146) hZ (hw _ (List.mem_of_getElem? (i := 39) rfl)) (hw _ (List.mem_of_getElem? (i := 28) rfl)) (by decide) (by decide)) q148a q148c (g := (mkF m 895 #[.val (.long q1), .second, .val (.int p2), .val (.int p3), .val (.ref b4), .val (.int v24), .val (.int v26), .val (.int v29), .val (.int v31), .val (.int v32), .val (.int v34), .val (.int v36), .val (.int v37), .val (.int v38), .val (.int v39), .val (.long v40), .second, .val (.long v42), .second, .val (.int v45), .val (.int v50), .val (.int v65), .val (.int v69), .val (.ref b71), .val (.ref b88), .val (.ref b141), .val (.ref b146), .unset, .unset] [(.int (4 : Int32)), (.int (0 : Int32)), (.ref b141), (.ref b146)])) rfl (by rw [hml]; rfl) (Steps.refl _) (argsL := [(.ref b141), (.int (0 : Int32)), (.int (4 : Int32))]) (rest := []) (lenOf pd_2 rfl) rfl (by show 2 * 0 + _ ≤ _; exact Nat.le_of_eq rfl) (hb hby at_895) (fun _ _ => ⟨rfl, e147, (by decide : 5 + 0 ≤ _), (by decide : 61 + 0 ≤ _)⟩)
  dsimp only [Pt.U, Pt.locs, Pt.cells, Pt.slots] at X148 l148 y148 z148 st148 hQ148
  replace y148 : k148 = 5 := y148
  replace z148 : n148 = 61 := z148
  subst y148 z148
  obtain ⟨rfl, N148q, K148, Q148_0, Q148_1, Q148_2⟩ := hQ148
  have N148 : Fr n0 L148 := Eq.mpr (congrArg (Fr n0) l148) (Fr.app N147 N148q)
  have A_b4_148 := A_b4_146.keep K148 (ninS ne_b4_b146 nin0)
  have A_b71_148 := A_b71_146.keep K148 (ninS ne_b71_b146 nin0)
  have A_b88_148 := A_b88_146.keep K148 (ninS ne_b88_b146 nin0)
  have A_b141_148 := A_b141_146.keep K148 (ninS ne_b141_b146 nin0)
  have E_b146_148 := A146.keep K148
  have Z148 := Nat.le_trans Z146 K148.1
  have KK148 : Keep h0 T148.heap [] := KK146.trans K148 (allS (Or.inr sz_b146) all0)
  refine Go.trans st148 ?_
  show Go p e below _ (T148.setTop (mkF m 898 _ [(.int (4 : Int32))]))
  refine gC (q := 899) (v := 4) X148 hx (hb hby at_898) rfl rfl ?_
  refine Go.step (fun t k => XS.icmpNo X148.here hx rfl (hb hby at_899) rfl (teq (rfl : (4 : Int32) = (4 : Int32))).2 k) ?_
  show Go p e below _ (T148.setTop (mkF m 902 _ []))
  refine gB (q := 904) X148 hx (hb hby at_902) rfl rfl rfl ?_
  obtain ⟨cq149, kq149, q149a, q149b, q149c⟩ := isOf hZ rfl Q148_1
  obtain ⟨_, _, ⟨T149, L149, k149, n149⟩, -, X149, ⟨Lc149, hQ149, l149, y149, z149⟩, st149⟩ := X148.virtualBack hx (y := (⟨"com/example/biller/biller/files/PlainValue", "unscaled", "()J"⟩ : MethodName)) (z := (⟨"com/example/biller/biller/files/PlainValue", "unscaled", "()J"⟩ : MethodName)) hown (mvT hZ (hw _ (List.mem_of_getElem? (i := 45) rfl))) (mvT hZ (hw _ (List.mem_of_getElem? (i := 46) rfl))) (notFace_of_selects (args := #[]) (mvT hZ (hw _ (List.mem_of_getElem? (i := 48) rfl)))) (mvT hZ (hw _ (List.mem_of_getElem? (i := 48) rfl))) (mvT hZ (hw _ (List.mem_of_getElem? (i := 47) rfl))) (by decide) (backOf (W := 0) (rm5 l Z a0 hw [] b146 (725 : Int64) T148.heap n0 Z148 Q148_2) hZ (hw _ (List.mem_of_getElem? (i := 49) rfl)) (hw _ (List.mem_of_getElem? (i := 28) rfl)) (by decide) (by decide)) q149a q149c (g := (mkF m 904 #[.val (.long q1), .second, .val (.int p2), .val (.int p3), .val (.ref b4), .val (.int v24), .val (.int v26), .val (.int v29), .val (.int v31), .val (.int v32), .val (.int v34), .val (.int v36), .val (.int v37), .val (.int v38), .val (.int v39), .val (.long v40), .second, .val (.long v42), .second, .val (.int v45), .val (.int v50), .val (.int v65), .val (.int v69), .val (.ref b71), .val (.ref b88), .val (.ref b141), .val (.ref b146), .unset, .unset] [(.ref b146)])) rfl (by rw [hml]; rfl) (Steps.refl _) (argsL := []) (rest := []) (lenOf pd_3 rfl) rfl (by show 2 * 0 + _ ≤ _; exact Nat.le_of_eq rfl) (hb hby at_904) (fun _ _ => ⟨rfl, rfl, (by decide : 5 + 0 ≤ _), (by decide : 61 + 0 ≤ _)⟩)
  dsimp only [Pt.U, Pt.locs, Pt.cells, Pt.slots] at X149 l149 y149 z149 st149 hQ149
  replace y149 : k149 = 5 := y149
  replace z149 : n149 = 61 := z149
  subst y149 z149
  obtain ⟨rfl, N149q, e149⟩ := hQ149
  have N149 : Fr n0 L149 := Eq.mpr (congrArg (Fr n0) l149) (Fr.app N148 N149q)
  refine Go.trans st149 ?_
  show Go p e below _ (T149.setTop (mkF m 907 _ [(.long (725 : Int64))]))
  refine Go.step (X149.ldc2Long hx hown (mvT hZ (hw _ (List.mem_of_getElem? (i := 50) rfl))) (g := (mkF m 907 #[.val (.long q1), .second, .val (.int p2), .val (.int p3), .val (.ref b4), .val (.int v24), .val (.int v26), .val (.int v29), .val (.int v31), .val (.int v32), .val (.int v34), .val (.int v36), .val (.int v37), .val (.int v38), .val (.int v39), .val (.long v40), .second, .val (.long v42), .second, .val (.int v45), .val (.int v50), .val (.int v65), .val (.int v69), .val (.ref b71), .val (.ref b88), .val (.ref b141), .val (.ref b146), .unset, .unset] [(.long (725 : Int64))])) rfl (hb hby at_907)) ?_
  show Go p e below _ (T149.setTop (mkF m 910 _ [(.long (725 : Int64)), (.long (725 : Int64))]))
  refine Go.step (fun t k => XS.lcmp X149.here hx rfl (hb hby at_910) rfl k) ?_
  show Go p e below _ (T149.setTop (mkF m 911 _ [(.int (lcmpW (725 : Int64) (725 : Int64)))]))
  refine Go.step (fun t k => XS.ifNo X149.here hx rfl (hb hby at_911) rfl ((if0 _ _).trans (teq ((lw_eq _ _).mpr (rfl : (725 : Int64) = (725 : Int64)))).2) k) ?_
  show Go p e below _ (T149.setTop (mkF m 914 _ []))
  refine gB (q := 916) X149 hx (hb hby at_914) rfl rfl rfl ?_
  obtain ⟨cq150, kq150, q150a, q150b, q150c⟩ := isOf hZ e149 Q148_1
  obtain ⟨_, _, ⟨T150, L150, k150, n150⟩, -, X150, ⟨Lc150, hQ150, l150, y150, z150⟩, st150⟩ := X149.virtualBack hx (y := (⟨"com/example/biller/biller/files/PlainValue", "scale", "()I"⟩ : MethodName)) (z := (⟨"com/example/biller/biller/files/PlainValue", "scale", "()I"⟩ : MethodName)) hown (mvT hZ (hw _ (List.mem_of_getElem? (i := 51) rfl))) (mvT hZ (hw _ (List.mem_of_getElem? (i := 52) rfl))) (notFace_of_selects (args := #[]) (mvT hZ (hw _ (List.mem_of_getElem? (i := 54) rfl)))) (mvT hZ (hw _ (List.mem_of_getElem? (i := 54) rfl))) (mvT hZ (hw _ (List.mem_of_getElem? (i := 53) rfl))) (by decide) (backOf (W := 0) (rm6 l Z a0 hw [] b146 (2 : Int32) T148.heap n0 Z148 Q148_0) hZ (hw _ (List.mem_of_getElem? (i := 55) rfl)) (hw _ (List.mem_of_getElem? (i := 28) rfl)) (by decide) (by decide)) q150a q150c (g := (mkF m 916 #[.val (.long q1), .second, .val (.int p2), .val (.int p3), .val (.ref b4), .val (.int v24), .val (.int v26), .val (.int v29), .val (.int v31), .val (.int v32), .val (.int v34), .val (.int v36), .val (.int v37), .val (.int v38), .val (.int v39), .val (.long v40), .second, .val (.long v42), .second, .val (.int v45), .val (.int v50), .val (.int v65), .val (.int v69), .val (.ref b71), .val (.ref b88), .val (.ref b141), .val (.ref b146), .unset, .unset] [(.ref b146)])) rfl (by rw [hml]; rfl) (Steps.refl _) (argsL := []) (rest := []) (lenOf pd_4 rfl) rfl (by show 2 * 0 + _ ≤ _; exact Nat.le_of_eq rfl) (hb hby at_916) (fun _ _ => ⟨rfl, e149, (by decide : 5 + 0 ≤ _), (by decide : 61 + 0 ≤ _)⟩)
  dsimp only [Pt.U, Pt.locs, Pt.cells, Pt.slots] at X150 l150 y150 z150 st150 hQ150
  replace y150 : k150 = 5 := y150
  replace z150 : n150 = 61 := z150
  subst y150 z150
  obtain ⟨rfl, N150q, e150⟩ := hQ150
  have N150 : Fr n0 L150 := Eq.mpr (congrArg (Fr n0) l150) (Fr.app N149 N150q)
  refine Go.trans st150 ?_
  show Go p e below _ (T150.setTop (mkF m 919 _ [(.int (2 : Int32))]))
  refine gC (q := 920) (v := 2) X150 hx (hb hby at_919) rfl rfl ?_
  refine Go.step (fun t k => XS.icmpNo X150.here hx rfl (hb hby at_920) rfl (teq (rfl : (2 : Int32) = (2 : Int32))).2 k) ?_
  show Go p e below _ (T150.setTop (mkF m 923 _ []))
  refine gC (q := 924) (v := 1) X150 hx (hb hby at_923) rfl rfl ?_
  refine Go.step (fun t k => XS.goto X150.here hx rfl (pc0 := 924) (pc' := 928) rfl (hb hby at_924) (by decide) (by decide) k) ?_
  show Go p e below _ (T150.setTop (mkF m 928 _ [(.int (1 : Int32))]))
  refine Go.step (fun t k => XS.istore X150.here hx rfl (hb hby at_928) rfl (l' := #[.val (.long q1), .second, .val (.int p2), .val (.int p3), .val (.ref b4), .val (.int v24), .val (.int v26), .val (.int v29), .val (.int v31), .val (.int v32), .val (.int v34), .val (.int v36), .val (.int v37), .val (.int v38), .val (.int v39), .val (.long v40), .second, .val (.long v42), .second, .val (.int v45), .val (.int v50), .val (.int v65), .val (.int v69), .val (.ref b71), .val (.ref b88), .val (.ref b141), .val (.ref b146), .val (.int (1 : Int32)), .unset]) rfl k) ?_
  show Go p e below _ (T150.setTop (mkF m 930 _ []))
  have hLn : Ln v69 v50 v29 v32 v37 := own_ln (own_er hWf) hv36 hv65 hv69
  obtain ⟨wv, hR0, hN, hS, hm⟩ := own_read hWf hLn hv37 g0 g2 g3 g4 hv80 g5 g6 g7
  have hdg := own_dgs hWf hS
  have hle := own_le hWf hLn
  by_cases hc151 : v24 < (1 : Int32)
  · skip
    show Go p e below _ (T150.setTop (mkF m 930 _ []))
    refine gB (q := 932) X150 hx (hb hby at_930) rfl rfl rfl ?_
    refine gB (q := 934) X150 hx (hb hby at_932) rfl rfl rfl ?_
    refine gJ (q := 936) X150 hx (hb hby at_934) rfl rfl ?_
    refine gJ (q := 938) X150 hx (hb hby at_936) rfl rfl ?_
    obtain ⟨cq153, kq153, q153a, q153b, q153c⟩ := isOf hZ e150 Q148_1
    obtain ⟨_, _, ⟨T153, L153, k153, n153⟩, -, X153, ⟨Lc153, hQ153, l153, y153, z153⟩, st153⟩ := X150.virtualBack hx (y := (⟨"com/example/biller/biller/files/PlainValue", "read", "([BII)I"⟩ : MethodName)) (z := (⟨"com/example/biller/biller/files/PlainValue", "read", "([BII)I"⟩ : MethodName)) hown (mvT hZ (hw _ (List.mem_of_getElem? (i := 35) rfl))) (mvT hZ (hw _ (List.mem_of_getElem? (i := 36) rfl))) (notFace_of_selects (args := #[]) (mvT hZ (hw _ (List.mem_of_getElem? (i := 38) rfl)))) (mvT hZ (hw _ (List.mem_of_getElem? (i := 38) rfl))) (mvT hZ (hw _ (List.mem_of_getElem? (i := 37) rfl))) (by decide) (backOf (W := 0) (rm4_lo l Z a0 hw [] b146 b88 v32 v69 26 (tK v42 gs 26) 30 v50 wv (pq v29 v45 v31) T148.heap n0 Z148 (hle.1 : v69.toInt ≤ 26) (hWf.2.2.2.2.1.1 : 0 ≤ v32.toInt) (hR0 : rd (tK v42 gs 26) v69 30 (rdS (tK v42 gs 26) v32 v69) (0 : Int64) (-1 : Int32) = (v50, wv, (pq v29 v45 v31))) (hle.2 : v69.toInt ≤ 30) (by rw [hdg]; exact hc151 : (dgs (tK v42 gs 26) v32 v69 v50 (pq v29 v45 v31)) < (1 : Int32)) A_b88_148) hZ (hw _ (List.mem_of_getElem? (i := 39) rfl)) (hw _ (List.mem_of_getElem? (i := 28) rfl)) (by decide) (by decide)) q153a q153c (g := (mkF m 938 #[.val (.long q1), .second, .val (.int p2), .val (.int p3), .val (.ref b4), .val (.int v24), .val (.int v26), .val (.int v29), .val (.int v31), .val (.int v32), .val (.int v34), .val (.int v36), .val (.int v37), .val (.int v38), .val (.int v39), .val (.long v40), .second, .val (.long v42), .second, .val (.int v45), .val (.int v50), .val (.int v65), .val (.int v69), .val (.ref b71), .val (.ref b88), .val (.ref b141), .val (.ref b146), .val (.int (1 : Int32)), .unset] [(.int v69), (.int v32), (.ref b88), (.ref b146)])) rfl (by rw [hml]; rfl) (Steps.refl _) (argsL := [(.ref b88), (.int v32), (.int v69)]) (rest := []) (lenOf pd_2 rfl) rfl (by show 2 * 0 + _ ≤ _; exact Nat.le_of_eq rfl) (hb hby at_938) (fun _ _ => ⟨rfl, e150, (by decide : 5 + 0 ≤ _), (by decide : 61 + 0 ≤ _)⟩)
    dsimp only [Pt.U, Pt.locs, Pt.cells, Pt.slots] at X153 l153 y153 z153 st153 hQ153
    replace y153 : k153 = 5 := y153
    replace z153 : n153 = 61 := z153
    subst y153 z153
    obtain ⟨rfl, N153q, e153⟩ := hQ153
    have N153 : Fr n0 L153 := Eq.mpr (congrArg (Fr n0) l153) (Fr.app N150 N153q)
    refine Go.trans st153 ?_
    show Go p e below _ (T153.setTop (mkF m 941 _ [(.int (-1 : Int32))]))
    refine Go.step (fun t k => XS.istore X153.here hx rfl (hb hby at_941) rfl (l' := #[.val (.long q1), .second, .val (.int p2), .val (.int p3), .val (.ref b4), .val (.int v24), .val (.int v26), .val (.int v29), .val (.int v31), .val (.int v32), .val (.int v34), .val (.int v36), .val (.int v37), .val (.int v38), .val (.int v39), .val (.long v40), .second, .val (.long v42), .second, .val (.int v45), .val (.int v50), .val (.int v65), .val (.int v69), .val (.ref b71), .val (.ref b88), .val (.ref b141), .val (.ref b146), .val (.int (1 : Int32)), .val (.int (-1 : Int32))]) rfl k) ?_
    show Go p e below _ (T153.setTop (mkF m 943 _ []))
    refine gJ (q := 945) X153 hx (hb hby at_943) rfl rfl ?_
    refine gC (q := 946) (v := 1) X153 hx (hb hby at_945) rfl rfl ?_
    by_cases hc154 : v24 < (1 : Int32)
    · refine Go.step (fun t k => XS.icmpYes X153.here hx rfl (pc0 := 946) (pc' := 956) rfl (hb hby at_946) rfl (tlt hc154).1 (by decide) (by decide) k) ?_
      show Go p e below _ (T153.setTop (mkF m 956 _ []))
      refine gJ (q := 958) X153 hx (hb hby at_956) rfl rfl ?_
      refine Go.step (fun t k => XS.ifNo X153.here hx rfl (hb hby at_958) rfl ((if0 _ _).trans (feq (by decide : ¬ ((1 : Int32) = (0 : Int32)))).1) k) ?_
      show Go p e below _ (T153.setTop (mkF m 961 _ []))
      refine gJ (q := 963) X153 hx (hb hby at_961) rfl rfl ?_
      refine gC (q := 964) (v := -1) X153 hx (hb hby at_963) rfl rfl ?_
      refine Go.step (fun t k => XS.icmpNo X153.here hx rfl (hb hby at_964) rfl (teq (rfl : (-1 : Int32) = (-1 : Int32))).2 k) ?_
      show Go p e below _ (T153.setTop (mkF m 967 _ []))
      refine gC (q := 968) (v := 1) X153 hx (hb hby at_967) rfl rfl ?_
      refine Go.step (fun t k => XS.goto X153.here hx rfl (pc0 := 968) (pc' := 972) rfl (hb hby at_968) (by decide) (by decide) k) ?_
      show Go p e below _ (T153.setTop (mkF m 972 _ [(.int (1 : Int32))]))
      subst hv80
      subst hv74
      subst hv69
      subst hv65
      subst hv50
      subst hv48
      subst hv45
      subst hv42
      subst hv40
      subst hv39
      subst hv38
      subst hv37
      subst hv36
      subst hv34
      subst hv32
      subst hv31
      subst hv29
      subst hv26
      subst hv24
      exact retGN X153 hx Bd.notSynchronized Bd.returns (t := .boolean) (by simp) (z' := (1 : Int32)) rfl (hb hby at_972) ⟨by first | (simp only [f0, if_pos hc154]; done) | rfl | (simp [f0, if_pos hc154]; done), N153⟩ (by decide) (by decide)
    · exfalso
      exact hc154 hc151
  · skip
    by_cases hc152 : (18 : Int32) < v24
    · skip
      show Go p e below _ (T150.setTop (mkF m 930 _ []))
      refine gB (q := 932) X150 hx (hb hby at_930) rfl rfl rfl ?_
      refine gB (q := 934) X150 hx (hb hby at_932) rfl rfl rfl ?_
      refine gJ (q := 936) X150 hx (hb hby at_934) rfl rfl ?_
      refine gJ (q := 938) X150 hx (hb hby at_936) rfl rfl ?_
      obtain ⟨cq155, kq155, q155a, q155b, q155c⟩ := isOf hZ e150 Q148_1
      obtain ⟨_, _, ⟨T155, L155, k155, n155⟩, -, X155, ⟨Lc155, hQ155, l155, y155, z155⟩, st155⟩ := X150.virtualBack hx (y := (⟨"com/example/biller/biller/files/PlainValue", "read", "([BII)I"⟩ : MethodName)) (z := (⟨"com/example/biller/biller/files/PlainValue", "read", "([BII)I"⟩ : MethodName)) hown (mvT hZ (hw _ (List.mem_of_getElem? (i := 35) rfl))) (mvT hZ (hw _ (List.mem_of_getElem? (i := 36) rfl))) (notFace_of_selects (args := #[]) (mvT hZ (hw _ (List.mem_of_getElem? (i := 38) rfl)))) (mvT hZ (hw _ (List.mem_of_getElem? (i := 38) rfl))) (mvT hZ (hw _ (List.mem_of_getElem? (i := 37) rfl))) (by decide) (backOf (W := 0) (rm4_hi l Z a0 hw [] b146 b88 v32 v69 26 (tK v42 gs 26) 30 v50 wv (pq v29 v45 v31) T148.heap n0 Z148 (hle.1 : v69.toInt ≤ 26) (hWf.2.2.2.2.1.1 : 0 ≤ v32.toInt) (hR0 : rd (tK v42 gs 26) v69 30 (rdS (tK v42 gs 26) v32 v69) (0 : Int64) (-1 : Int32) = (v50, wv, (pq v29 v45 v31))) (hle.2 : v69.toInt ≤ 30) (by rw [hdg]; exact hc151 : ¬ (dgs (tK v42 gs 26) v32 v69 v50 (pq v29 v45 v31)) < (1 : Int32)) (by rw [hdg]; exact hc152 : (18 : Int32) < (dgs (tK v42 gs 26) v32 v69 v50 (pq v29 v45 v31))) A_b88_148) hZ (hw _ (List.mem_of_getElem? (i := 39) rfl)) (hw _ (List.mem_of_getElem? (i := 28) rfl)) (by decide) (by decide)) q155a q155c (g := (mkF m 938 #[.val (.long q1), .second, .val (.int p2), .val (.int p3), .val (.ref b4), .val (.int v24), .val (.int v26), .val (.int v29), .val (.int v31), .val (.int v32), .val (.int v34), .val (.int v36), .val (.int v37), .val (.int v38), .val (.int v39), .val (.long v40), .second, .val (.long v42), .second, .val (.int v45), .val (.int v50), .val (.int v65), .val (.int v69), .val (.ref b71), .val (.ref b88), .val (.ref b141), .val (.ref b146), .val (.int (1 : Int32)), .unset] [(.int v69), (.int v32), (.ref b88), (.ref b146)])) rfl (by rw [hml]; rfl) (Steps.refl _) (argsL := [(.ref b88), (.int v32), (.int v69)]) (rest := []) (lenOf pd_2 rfl) rfl (by show 2 * 0 + _ ≤ _; exact Nat.le_of_eq rfl) (hb hby at_938) (fun _ _ => ⟨rfl, e150, (by decide : 5 + 0 ≤ _), (by decide : 61 + 0 ≤ _)⟩)
      dsimp only [Pt.U, Pt.locs, Pt.cells, Pt.slots] at X155 l155 y155 z155 st155 hQ155
      replace y155 : k155 = 5 := y155
      replace z155 : n155 = 61 := z155
      subst y155 z155
      obtain ⟨rfl, N155q, e155⟩ := hQ155
      have N155 : Fr n0 L155 := Eq.mpr (congrArg (Fr n0) l155) (Fr.app N150 N155q)
      refine Go.trans st155 ?_
      show Go p e below _ (T155.setTop (mkF m 941 _ [(.int (-1 : Int32))]))
      refine Go.step (fun t k => XS.istore X155.here hx rfl (hb hby at_941) rfl (l' := #[.val (.long q1), .second, .val (.int p2), .val (.int p3), .val (.ref b4), .val (.int v24), .val (.int v26), .val (.int v29), .val (.int v31), .val (.int v32), .val (.int v34), .val (.int v36), .val (.int v37), .val (.int v38), .val (.int v39), .val (.long v40), .second, .val (.long v42), .second, .val (.int v45), .val (.int v50), .val (.int v65), .val (.int v69), .val (.ref b71), .val (.ref b88), .val (.ref b141), .val (.ref b146), .val (.int (1 : Int32)), .val (.int (-1 : Int32))]) rfl k) ?_
      show Go p e below _ (T155.setTop (mkF m 943 _ []))
      refine gJ (q := 945) X155 hx (hb hby at_943) rfl rfl ?_
      refine gC (q := 946) (v := 1) X155 hx (hb hby at_945) rfl rfl ?_
      by_cases hc156 : v24 < (1 : Int32)
      · exfalso
        exact hc151 hc156
      · refine Go.step (fun t k => XS.icmpNo X155.here hx rfl (hb hby at_946) rfl (flt hc156).1 k) ?_
        show Go p e below _ (T155.setTop (mkF m 949 _ []))
        refine gJ (q := 951) X155 hx (hb hby at_949) rfl rfl ?_
        refine Go.step (fun t k => XS.bipush X155.here hx rfl (hb hby at_951)  k) ?_
        show Go p e below _ (T155.setTop (mkF m 953 _ [(.int (18 : Int32)), (.int v24)]))
        by_cases hc157 : (18 : Int32) < v24
        · refine Go.step (fun t k => XS.icmpNo X155.here hx rfl (hb hby at_953) rfl (tlt hc157).2.2.2 k) ?_
          show Go p e below _ (T155.setTop (mkF m 956 _ []))
          refine gJ (q := 958) X155 hx (hb hby at_956) rfl rfl ?_
          refine Go.step (fun t k => XS.ifNo X155.here hx rfl (hb hby at_958) rfl ((if0 _ _).trans (feq (by decide : ¬ ((1 : Int32) = (0 : Int32)))).1) k) ?_
          show Go p e below _ (T155.setTop (mkF m 961 _ []))
          refine gJ (q := 963) X155 hx (hb hby at_961) rfl rfl ?_
          refine gC (q := 964) (v := -1) X155 hx (hb hby at_963) rfl rfl ?_
          refine Go.step (fun t k => XS.icmpNo X155.here hx rfl (hb hby at_964) rfl (teq (rfl : (-1 : Int32) = (-1 : Int32))).2 k) ?_
          show Go p e below _ (T155.setTop (mkF m 967 _ []))
          refine gC (q := 968) (v := 1) X155 hx (hb hby at_967) rfl rfl ?_
          refine Go.step (fun t k => XS.goto X155.here hx rfl (pc0 := 968) (pc' := 972) rfl (hb hby at_968) (by decide) (by decide) k) ?_
          show Go p e below _ (T155.setTop (mkF m 972 _ [(.int (1 : Int32))]))
          subst hv80
          subst hv74
          subst hv69
          subst hv65
          subst hv50
          subst hv48
          subst hv45
          subst hv42
          subst hv40
          subst hv39
          subst hv38
          subst hv37
          subst hv36
          subst hv34
          subst hv32
          subst hv31
          subst hv29
          subst hv26
          subst hv24
          exact retGN X155 hx Bd.notSynchronized Bd.returns (t := .boolean) (by simp) (z' := (1 : Int32)) rfl (hb hby at_972) ⟨by first | (simp only [f0, if_neg hc156, if_pos hc157]; done) | rfl | (simp [f0, if_neg hc156, if_pos hc157]; done), N155⟩ (by decide) (by decide)
        · exfalso
          exact hc157 hc152
    · skip
      show Go p e below _ (T150.setTop (mkF m 930 _ []))
      refine gB (q := 932) X150 hx (hb hby at_930) rfl rfl rfl ?_
      refine gB (q := 934) X150 hx (hb hby at_932) rfl rfl rfl ?_
      refine gJ (q := 936) X150 hx (hb hby at_934) rfl rfl ?_
      refine gJ (q := 938) X150 hx (hb hby at_936) rfl rfl ?_
      obtain ⟨cq158, kq158, q158a, q158b, q158c⟩ := isOf hZ e150 Q148_1
      obtain ⟨_, _, ⟨T158, L158, k158, n158⟩, -, X158, ⟨Lc158, hQ158, l158, y158, z158⟩, st158⟩ := X150.virtualBack hx (y := (⟨"com/example/biller/biller/files/PlainValue", "read", "([BII)I"⟩ : MethodName)) (z := (⟨"com/example/biller/biller/files/PlainValue", "read", "([BII)I"⟩ : MethodName)) hown (mvT hZ (hw _ (List.mem_of_getElem? (i := 35) rfl))) (mvT hZ (hw _ (List.mem_of_getElem? (i := 36) rfl))) (notFace_of_selects (args := #[]) (mvT hZ (hw _ (List.mem_of_getElem? (i := 38) rfl)))) (mvT hZ (hw _ (List.mem_of_getElem? (i := 38) rfl))) (mvT hZ (hw _ (List.mem_of_getElem? (i := 37) rfl))) (by decide) (backOf (W := 0) (rm4_ok l Z a0 hw [] b146 b88 v32 v69 26 (tK v42 gs 26) 30 v50 wv (pq v29 v45 v31) (ngv v26 v42) (scv v29 v24 v31) (.int (2 : Int32)) (.long (725 : Int64)) (.long (725 : Int64)) (.long (725 : Int64)) (.long (725 : Int64)) (.long (725 : Int64)) T148.heap n0 Z148 (hle.1 : v69.toInt ≤ 26) (hWf.2.2.2.2.1.1 : 0 ≤ v32.toInt) (hR0 : rd (tK v42 gs 26) v69 30 (rdS (tK v42 gs 26) v32 v69) (0 : Int64) (-1 : Int32) = (v50, wv, (pq v29 v45 v31))) (hle.2 : v69.toInt ≤ 30) (by rw [hdg]; exact hc151 : ¬ (dgs (tK v42 gs 26) v32 v69 v50 (pq v29 v45 v31)) < (1 : Int32)) (by rw [hdg]; exact hc152 : ¬ (18 : Int32) < (dgs (tK v42 gs 26) v32 v69 v50 (pq v29 v45 v31))) (by rw [hN, hm (own_18 hc152)]; rfl : (if (rdN (tK v42 gs 26) v32 v69) = (0 : Int32) then wv else (-wv)) = (ngv v26 v42)) (own_sv hWf : (if (pq v29 v45 v31) < (0 : Int32) then (0 : Int32) else ((v50 - (pq v29 v45 v31)) - (1 : Int32))) = (scv v29 v24 v31)) A_b88_148 Q148_0 Q148_1 Q148_2 g_b146 ne_b88_b146) hZ (hw _ (List.mem_of_getElem? (i := 39) rfl)) (hw _ (List.mem_of_getElem? (i := 28) rfl)) (by decide) (by decide)) q158a q158c (g := (mkF m 938 #[.val (.long q1), .second, .val (.int p2), .val (.int p3), .val (.ref b4), .val (.int v24), .val (.int v26), .val (.int v29), .val (.int v31), .val (.int v32), .val (.int v34), .val (.int v36), .val (.int v37), .val (.int v38), .val (.int v39), .val (.long v40), .second, .val (.long v42), .second, .val (.int v45), .val (.int v50), .val (.int v65), .val (.int v69), .val (.ref b71), .val (.ref b88), .val (.ref b141), .val (.ref b146), .val (.int (1 : Int32)), .unset] [(.int v69), (.int v32), (.ref b88), (.ref b146)])) rfl (by rw [hml]; rfl) (Steps.refl _) (argsL := [(.ref b88), (.int v32), (.int v69)]) (rest := []) (lenOf pd_2 rfl) rfl (by show 2 * 0 + _ ≤ _; exact Nat.le_of_eq rfl) (hb hby at_938) (fun _ _ => ⟨rfl, e150, (by decide : 5 + 0 ≤ _), (by decide : 61 + 0 ≤ _)⟩)
      dsimp only [Pt.U, Pt.locs, Pt.cells, Pt.slots] at X158 l158 y158 z158 st158 hQ158
      replace y158 : k158 = 5 := y158
      replace z158 : n158 = 61 := z158
      subst y158 z158
      obtain ⟨rfl, N158q, K158, Q158_0, Q158_1, Q158_2⟩ := hQ158
      have N158 : Fr n0 L158 := Eq.mpr (congrArg (Fr n0) l158) (Fr.app N150 N158q)
      have A_b4_158 := A_b4_148.keep K158 (ninS ne_b4_b146 nin0)
      have A_b71_158 := A_b71_148.keep K158 (ninS ne_b71_b146 nin0)
      have A_b88_158 := A_b88_148.keep K158 (ninS ne_b88_b146 nin0)
      have A_b141_158 := A_b141_148.keep K158 (ninS ne_b141_b146 nin0)
      have E_b146_158 := Q148_1.keep K158
      have Z158 := Nat.le_trans Z148 K158.1
      have KK158 : Keep h0 T158.heap [] := KK148.trans K158 (allS (Or.inr sz_b146) all0)
      refine Go.trans st158 ?_
      show Go p e below _ (T158.setTop (mkF m 941 _ [(.int v50)]))
      refine Go.step (fun t k => XS.istore X158.here hx rfl (hb hby at_941) rfl (l' := #[.val (.long q1), .second, .val (.int p2), .val (.int p3), .val (.ref b4), .val (.int v24), .val (.int v26), .val (.int v29), .val (.int v31), .val (.int v32), .val (.int v34), .val (.int v36), .val (.int v37), .val (.int v38), .val (.int v39), .val (.long v40), .second, .val (.long v42), .second, .val (.int v45), .val (.int v50), .val (.int v65), .val (.int v69), .val (.ref b71), .val (.ref b88), .val (.ref b141), .val (.ref b146), .val (.int (1 : Int32)), .val (.int v50)]) rfl k) ?_
      show Go p e below _ (T158.setTop (mkF m 943 _ []))
      refine gJ (q := 945) X158 hx (hb hby at_943) rfl rfl ?_
      refine gC (q := 946) (v := 1) X158 hx (hb hby at_945) rfl rfl ?_
      by_cases hc159 : v24 < (1 : Int32)
      · exfalso
        exact hc151 hc159
      · refine Go.step (fun t k => XS.icmpNo X158.here hx rfl (hb hby at_946) rfl (flt hc159).1 k) ?_
        show Go p e below _ (T158.setTop (mkF m 949 _ []))
        refine gJ (q := 951) X158 hx (hb hby at_949) rfl rfl ?_
        refine Go.step (fun t k => XS.bipush X158.here hx rfl (hb hby at_951)  k) ?_
        show Go p e below _ (T158.setTop (mkF m 953 _ [(.int (18 : Int32)), (.int v24)]))
        by_cases hc160 : (18 : Int32) < v24
        · exfalso
          exact hc152 hc160
        · refine Go.step (fun t k => XS.icmpYes X158.here hx rfl (pc0 := 953) (pc' := 973) rfl (hb hby at_953) rfl (flt hc160).2.2.2 (by decide) (by decide) k) ?_
          show Go p e below _ (T158.setTop (mkF m 973 _ []))
          refine gJ (q := 975) X158 hx (hb hby at_973) rfl rfl ?_
          refine Go.step (fun t k => XS.ifNo X158.here hx rfl (hb hby at_975) rfl ((if0 _ _).trans (feq (by decide : ¬ ((1 : Int32) = (0 : Int32)))).1) k) ?_
          show Go p e below _ (T158.setTop (mkF m 978 _ []))
          refine gJ (q := 980) X158 hx (hb hby at_978) rfl rfl ?_
          refine gJ (q := 982) X158 hx (hb hby at_980) rfl rfl ?_
          refine Go.step (fun t k => XS.icmpNo X158.here hx rfl (hb hby at_982) rfl (teq (rfl : v50 = v50)).2 k) ?_
          show Go p e below _ (T158.setTop (mkF m 985 _ []))
          refine gB (q := 987) X158 hx (hb hby at_985) rfl rfl rfl ?_
          obtain ⟨cq161, kq161, q161a, q161b, q161c⟩ := isOf hZ rfl Q158_1
          obtain ⟨_, _, ⟨T161, L161, k161, n161⟩, -, X161, ⟨Lc161, hQ161, l161, y161, z161⟩, st161⟩ := X158.virtualBack hx (y := (⟨"com/example/biller/biller/files/PlainValue", "unscaled", "()J"⟩ : MethodName)) (z := (⟨"com/example/biller/biller/files/PlainValue", "unscaled", "()J"⟩ : MethodName)) hown (mvT hZ (hw _ (List.mem_of_getElem? (i := 45) rfl))) (mvT hZ (hw _ (List.mem_of_getElem? (i := 46) rfl))) (notFace_of_selects (args := #[]) (mvT hZ (hw _ (List.mem_of_getElem? (i := 48) rfl)))) (mvT hZ (hw _ (List.mem_of_getElem? (i := 48) rfl))) (mvT hZ (hw _ (List.mem_of_getElem? (i := 47) rfl))) (by decide) (backOf (W := 0) (rm5 l Z a0 hw [] b146 (ngv v26 v42) T158.heap n0 Z158 Q158_2) hZ (hw _ (List.mem_of_getElem? (i := 49) rfl)) (hw _ (List.mem_of_getElem? (i := 28) rfl)) (by decide) (by decide)) q161a q161c (g := (mkF m 987 #[.val (.long q1), .second, .val (.int p2), .val (.int p3), .val (.ref b4), .val (.int v24), .val (.int v26), .val (.int v29), .val (.int v31), .val (.int v32), .val (.int v34), .val (.int v36), .val (.int v37), .val (.int v38), .val (.int v39), .val (.long v40), .second, .val (.long v42), .second, .val (.int v45), .val (.int v50), .val (.int v65), .val (.int v69), .val (.ref b71), .val (.ref b88), .val (.ref b141), .val (.ref b146), .val (.int (1 : Int32)), .val (.int v50)] [(.ref b146)])) rfl (by rw [hml]; rfl) (Steps.refl _) (argsL := []) (rest := []) (lenOf pd_3 rfl) rfl (by show 2 * 0 + _ ≤ _; exact Nat.le_of_eq rfl) (hb hby at_987) (fun _ _ => ⟨rfl, rfl, (by decide : 5 + 0 ≤ _), (by decide : 61 + 0 ≤ _)⟩)
          dsimp only [Pt.U, Pt.locs, Pt.cells, Pt.slots] at X161 l161 y161 z161 st161 hQ161
          replace y161 : k161 = 5 := y161
          replace z161 : n161 = 61 := z161
          subst y161 z161
          obtain ⟨rfl, N161q, e161⟩ := hQ161
          have N161 : Fr n0 L161 := Eq.mpr (congrArg (Fr n0) l161) (Fr.app N158 N161q)
          refine Go.trans st161 ?_
          show Go p e below _ (T161.setTop (mkF m 990 _ [(.long (ngv v26 v42))]))
          refine gJ (q := 992) X161 hx (hb hby at_990) rfl rfl ?_
          obtain ⟨v163, hv163⟩ : ∃ z : Int64, z = (if v26 = (0 : Int32) then v42 else (-v42)) := ⟨_, rfl⟩
          have J992 : Go p e below (AtF p l e room_1 s m #[(.long q1), (.int p2), (.int p3)] below meth c n0 5 61 T158.heap (mkF m 1003 #[.val (.long q1), .second, .val (.int p2), .val (.int p3), .val (.ref b4), .val (.int v24), .val (.int v26), .val (.int v29), .val (.int v31), .val (.int v32), .val (.int v34), .val (.int v36), .val (.int v37), .val (.int v38), .val (.int v39), .val (.long v40), .second, .val (.long v42), .second, .val (.int v45), .val (.int v50), .val (.int v65), .val (.int v69), .val (.ref b71), .val (.ref b88), .val (.ref b141), .val (.ref b146), .val (.int (1 : Int32)), .val (.int v50)] [(.long v163), (.long (ngv v26 v42))])) (T161.setTop (mkF m 992 #[.val (.long q1), .second, .val (.int p2), .val (.int p3), .val (.ref b4), .val (.int v24), .val (.int v26), .val (.int v29), .val (.int v31), .val (.int v32), .val (.int v34), .val (.int v36), .val (.int v37), .val (.int v38), .val (.int v39), .val (.long v40), .second, .val (.long v42), .second, .val (.int v45), .val (.int v50), .val (.int v65), .val (.int v69), .val (.ref b71), .val (.ref b88), .val (.ref b141), .val (.ref b146), .val (.int (1 : Int32)), .val (.int v50)] [(.int v26), (.long (ngv v26 v42))])) := by
           by_cases hc162 : v26 = (0 : Int32)
           · refine Go.step (fun t k => XS.ifYes X161.here hx rfl (pc0 := 992) (pc' := 1001) rfl (hb hby at_992) rfl ((if0 _ _).trans (teq hc162).1) (by decide) (by decide) k) ?_
             show Go p e below _ (T161.setTop (mkF m 1001 _ [(.long (ngv v26 v42))]))
             refine Go.step (fun t k => XS.lload X161.here hx rfl (hb hby at_1001) rfl k) ?_
             show Go p e below _ (T161.setTop (mkF m 1003 _ [(.long v42), (.long (ngv v26 v42))]))
             exact Go.here ⟨_, _, by simp only [hv163, if_pos hc162], X161, N161, e161⟩
           · refine Go.step (fun t k => XS.ifNo X161.here hx rfl (hb hby at_992) rfl ((if0 _ _).trans (feq hc162).1) k) ?_
             show Go p e below _ (T161.setTop (mkF m 995 _ [(.long (ngv v26 v42))]))
             refine Go.step (fun t k => XS.lload X161.here hx rfl (hb hby at_995) rfl k) ?_
             show Go p e below _ (T161.setTop (mkF m 997 _ [(.long v42), (.long (ngv v26 v42))]))
             refine Go.step (fun t k => XS.lneg X161.here hx rfl (hb hby at_997) rfl k) ?_
             show Go p e below _ (T161.setTop (mkF m 998 _ [(.long (-v42)), (.long (ngv v26 v42))]))
             refine Go.step (fun t k => XS.goto X161.here hx rfl (pc0 := 998) (pc' := 1003) rfl (hb hby at_998) (by decide) (by decide) k) ?_
             show Go p e below _ (T161.setTop (mkF m 1003 _ [(.long (-v42)), (.long (ngv v26 v42))]))
             exact Go.here ⟨_, _, by simp only [hv163, if_neg hc162], X161, N161, e161⟩
          obtain ⟨_, st164, T164, Lj164, rfl, X164, N164, e164⟩ := J992
          refine Go.trans st164 ?_
          show Go p e below _ (T164.setTop (mkF m 1003 _ [(.long v163), (.long (ngv v26 v42))]))
          refine Go.step (fun t k => XS.lcmp X164.here hx rfl (hb hby at_1003) rfl k) ?_
          show Go p e below _ (T164.setTop (mkF m 1004 _ [(.int (lcmpW (ngv v26 v42) v163))]))
          by_cases hc165 : (ngv v26 v42) = v163
          · refine Go.step (fun t k => XS.ifNo X164.here hx rfl (hb hby at_1004) rfl ((if0 _ _).trans (teq ((lw_eq _ _).mpr hc165)).2) k) ?_
            show Go p e below _ (T164.setTop (mkF m 1007 _ []))
            refine gB (q := 1009) X164 hx (hb hby at_1007) rfl rfl rfl ?_
            obtain ⟨cq166, kq166, q166a, q166b, q166c⟩ := isOf hZ e164 Q158_1
            obtain ⟨_, _, ⟨T166, L166, k166, n166⟩, -, X166, ⟨Lc166, hQ166, l166, y166, z166⟩, st166⟩ := X164.virtualBack hx (y := (⟨"com/example/biller/biller/files/PlainValue", "scale", "()I"⟩ : MethodName)) (z := (⟨"com/example/biller/biller/files/PlainValue", "scale", "()I"⟩ : MethodName)) hown (mvT hZ (hw _ (List.mem_of_getElem? (i := 51) rfl))) (mvT hZ (hw _ (List.mem_of_getElem? (i := 52) rfl))) (notFace_of_selects (args := #[]) (mvT hZ (hw _ (List.mem_of_getElem? (i := 54) rfl)))) (mvT hZ (hw _ (List.mem_of_getElem? (i := 54) rfl))) (mvT hZ (hw _ (List.mem_of_getElem? (i := 53) rfl))) (by decide) (backOf (W := 0) (rm6 l Z a0 hw [] b146 (scv v29 v24 v31) T158.heap n0 Z158 Q158_0) hZ (hw _ (List.mem_of_getElem? (i := 55) rfl)) (hw _ (List.mem_of_getElem? (i := 28) rfl)) (by decide) (by decide)) q166a q166c (g := (mkF m 1009 #[.val (.long q1), .second, .val (.int p2), .val (.int p3), .val (.ref b4), .val (.int v24), .val (.int v26), .val (.int v29), .val (.int v31), .val (.int v32), .val (.int v34), .val (.int v36), .val (.int v37), .val (.int v38), .val (.int v39), .val (.long v40), .second, .val (.long v42), .second, .val (.int v45), .val (.int v50), .val (.int v65), .val (.int v69), .val (.ref b71), .val (.ref b88), .val (.ref b141), .val (.ref b146), .val (.int (1 : Int32)), .val (.int v50)] [(.ref b146)])) rfl (by rw [hml]; rfl) (Steps.refl _) (argsL := []) (rest := []) (lenOf pd_4 rfl) rfl (by show 2 * 0 + _ ≤ _; exact Nat.le_of_eq rfl) (hb hby at_1009) (fun _ _ => ⟨rfl, e164, (by decide : 5 + 0 ≤ _), (by decide : 61 + 0 ≤ _)⟩)
            dsimp only [Pt.U, Pt.locs, Pt.cells, Pt.slots] at X166 l166 y166 z166 st166 hQ166
            replace y166 : k166 = 5 := y166
            replace z166 : n166 = 61 := z166
            subst y166 z166
            obtain ⟨rfl, N166q, e166⟩ := hQ166
            have N166 : Fr n0 L166 := Eq.mpr (congrArg (Fr n0) l166) (Fr.app N164 N166q)
            refine Go.trans st166 ?_
            show Go p e below _ (T166.setTop (mkF m 1012 _ [(.int (scv v29 v24 v31))]))
            refine gJ (q := 1014) X166 hx (hb hby at_1012) rfl rfl ?_
            obtain ⟨v168, hv168⟩ : ∃ z : Int32, z = (if v29 = (0 : Int32) then (0 : Int32) else (v24 - v31)) := ⟨_, rfl⟩
            have J1014 : Go p e below (AtF p l e room_1 s m #[(.long q1), (.int p2), (.int p3)] below meth c n0 5 61 T158.heap (mkF m 1026 #[.val (.long q1), .second, .val (.int p2), .val (.int p3), .val (.ref b4), .val (.int v24), .val (.int v26), .val (.int v29), .val (.int v31), .val (.int v32), .val (.int v34), .val (.int v36), .val (.int v37), .val (.int v38), .val (.int v39), .val (.long v40), .second, .val (.long v42), .second, .val (.int v45), .val (.int v50), .val (.int v65), .val (.int v69), .val (.ref b71), .val (.ref b88), .val (.ref b141), .val (.ref b146), .val (.int (1 : Int32)), .val (.int v50)] [(.int v168), (.int (scv v29 v24 v31))])) (T166.setTop (mkF m 1014 #[.val (.long q1), .second, .val (.int p2), .val (.int p3), .val (.ref b4), .val (.int v24), .val (.int v26), .val (.int v29), .val (.int v31), .val (.int v32), .val (.int v34), .val (.int v36), .val (.int v37), .val (.int v38), .val (.int v39), .val (.long v40), .second, .val (.long v42), .second, .val (.int v45), .val (.int v50), .val (.int v65), .val (.int v69), .val (.ref b71), .val (.ref b88), .val (.ref b141), .val (.ref b146), .val (.int (1 : Int32)), .val (.int v50)] [(.int v29), (.int (scv v29 v24 v31))])) := by
             by_cases hc167 : v29 = (0 : Int32)
             · refine Go.step (fun t k => XS.ifYes X166.here hx rfl (pc0 := 1014) (pc' := 1025) rfl (hb hby at_1014) rfl ((if0 _ _).trans (teq hc167).1) (by decide) (by decide) k) ?_
               show Go p e below _ (T166.setTop (mkF m 1025 _ [(.int (scv v29 v24 v31))]))
               refine gC (q := 1026) (v := 0) X166 hx (hb hby at_1025) rfl rfl ?_
               show Go p e below _ (T166.setTop (mkF m 1026 _ [(.int (0 : Int32)), (.int (scv v29 v24 v31))]))
               exact Go.here ⟨_, _, by simp only [hv168, if_pos hc167], X166, N166, e166⟩
             · refine Go.step (fun t k => XS.ifNo X166.here hx rfl (hb hby at_1014) rfl ((if0 _ _).trans (feq hc167).1) k) ?_
               show Go p e below _ (T166.setTop (mkF m 1017 _ [(.int (scv v29 v24 v31))]))
               refine gJ (q := 1019) X166 hx (hb hby at_1017) rfl rfl ?_
               refine gJ (q := 1021) X166 hx (hb hby at_1019) rfl rfl ?_
               refine Go.step (fun t k => XS.isub X166.here hx rfl (hb hby at_1021) rfl k) ?_
               show Go p e below _ (T166.setTop (mkF m 1022 _ [(.int (v24 - v31)), (.int (scv v29 v24 v31))]))
               refine Go.step (fun t k => XS.goto X166.here hx rfl (pc0 := 1022) (pc' := 1026) rfl (hb hby at_1022) (by decide) (by decide) k) ?_
               show Go p e below _ (T166.setTop (mkF m 1026 _ [(.int (v24 - v31)), (.int (scv v29 v24 v31))]))
               exact Go.here ⟨_, _, by simp only [hv168, if_neg hc167], X166, N166, e166⟩
            obtain ⟨_, st169, T169, Lj169, rfl, X169, N169, e169⟩ := J1014
            refine Go.trans st169 ?_
            show Go p e below _ (T169.setTop (mkF m 1026 _ [(.int v168), (.int (scv v29 v24 v31))]))
            by_cases hc170 : (scv v29 v24 v31) = v168
            · refine Go.step (fun t k => XS.icmpNo X169.here hx rfl (hb hby at_1026) rfl (teq hc170).2 k) ?_
              show Go p e below _ (T169.setTop (mkF m 1029 _ []))
              refine gC (q := 1030) (v := 1) X169 hx (hb hby at_1029) rfl rfl ?_
              refine Go.step (fun t k => XS.goto X169.here hx rfl (pc0 := 1030) (pc' := 1034) rfl (hb hby at_1030) (by decide) (by decide) k) ?_
              show Go p e below _ (T169.setTop (mkF m 1034 _ [(.int (1 : Int32))]))
              subst hv168
              subst hv163
              subst hv80
              subst hv74
              subst hv69
              subst hv65
              subst hv50
              subst hv48
              subst hv45
              subst hv42
              subst hv40
              subst hv39
              subst hv38
              subst hv37
              subst hv36
              subst hv34
              subst hv32
              subst hv31
              subst hv29
              subst hv26
              subst hv24
              exact retGN X169 hx Bd.notSynchronized Bd.returns (t := .boolean) (by simp) (z' := (1 : Int32)) rfl (hb hby at_1034) ⟨by first | (simp only [f0, if_neg hc159, if_neg hc160, if_pos hc165, if_pos hc170]; done) | rfl | (simp [f0, if_neg hc159, if_neg hc160, if_pos hc165, if_pos hc170]; done), N169⟩ (by decide) (by decide)
            · exfalso
              exact hc170 (by subst_vars; rfl)
          · exfalso
            exact hc165 (by subst_vars; rfl)
theorem law_true (a : Int64) (b c : Int32) : f0 a b c = 1 := rfl
set_option maxRecDepth 65536 in
set_option maxHeartbeats 40000000 in
theorem comes_1 {Post : Tables → Env → Array Value → State → Outcome → State → Prop} (hpost : ∀ tb e args s v u, (limb_1_1.after args s (.returned v) u = true ∧ limb_1_2.after args s (.returned v) u = true ∧ True) → FrameEnd s (.returned v) u (Jvm.fieldLocs frame_1_writes args s ++ Jvm.arrayLocs frame_1_arrays args s ++ Jvm.staticLocs frame_1_statics s) 24 192 → Post tb e args s (.returned v) u) :
    ArmFor flags0 classFile x code maxLocals ret World_1 tables_1 room_1 Calls_1 rest_1 Pre_1 Post := by
  intro l hfl _ _ p e ha hc hk s m args below hf hA hF happ hP
  obtain ⟨hcalls, hrest, hpre⟩ := hP
  obtain ⟨-, -, -, hnamed, -, -, -, hat⟩ := (Spec.applies_iff hf).mp happ
  obtain ⟨hg, hn⟩ := and_e (Cond.before_iff.mp (show (Jvm.Cond.and given_1 narrow_1).before args s = true from hpre))
  obtain ⟨g0, hg⟩ := and_e hg
  obtain ⟨ga0, hg⟩ := and_e hg
  obtain ⟨ga1, hg⟩ := and_e hg
  have ga2 := hg
  obtain ⟨w0, w1, w2, rfl⟩ : ∃ w0 w1 w2 : Value, args = #[w0, w1, w2] := by
    have hs : args.size = 3 := by simpa [Cond.value, given_1] using g0
    obtain ⟨L⟩ := args
    match L, hs with
    | [w0, w1, w2], _ => exact ⟨w0, w1, w2, rfl⟩
  have hw := fun d (hd : d ∈ tables_1) => atoms_spec (ws := Jvm.Cond.code x code maxLocals ret :: tables_1) hat d (List.mem_cons_of_mem _ hd)
  have hfit : Fit s := fun {y c} hc i hi => by
    obtain ⟨ha, rfl⟩ := Array.getElem?_eq_some_iff.mp hc
    have q := List.all_eq_true.mp ((Array.all_eq_true_iff_forall_mem.mp hF) _ (Array.getElem_mem ha)) i (List.mem_range.mpr hi)
    simpa [Array.getElem?_eq_getElem hi] using q
  obtain ⟨i0, ei0⟩ := isL_v ga0
  obtain rfl : w0 = (.long i0) := Option.some.inj ei0
  obtain ⟨i1, ei1⟩ := is_v ga1
  obtain rfl : w1 = (.int i1) := Option.some.inj ei1
  obtain ⟨i2, ei2⟩ := is_v ga2
  obtain rfl : w2 = (.int i2) := Option.some.inj ei2
  obtain ⟨n, o, h1, h2, h3, v, L, rfl, hQ, hq⟩ := rm0 l s _ hw tables_1 i0 i1 i2  s.heap s.heap.size (Nat.le_refl _)  p e ha hc hk s m _ below hf ((Spec.applies_iff_loose hf).mp happ).1 ⟨rfl, State.Warmed39.refl s, rfl⟩ trivial
  obtain ⟨hv, N⟩ := hQ
  rw [law_true i0 i1 i2] at hv
  subst hv
  refine ⟨n, _, h1, h2, h3, hpost _ _ _ _ _ _ ⟨Cond.after_iff.mpr rfl, Cond.after_iff.mpr (eq_i res_at (Term.int_eval (1)) rfl), trivial⟩ ⟨hq.1, hq.2.1, (hq.2.2.sift fun y hy => Or.inr (N y hy)).mono (by decide) (by decide)⟩⟩
theorem main_1_1 : Claimed_1_1 := comes_1 fun _ _ _ _ _ _ h hF => ⟨h.1, hF⟩
theorem main_1_2 : Claimed_1_2 := comes_1 fun _ _ _ _ _ _ h hF => ⟨h.2.1, hF⟩
end Jvm.Pilot.@@N@@
namespace Jvm.Pilot.@@N@@
open Jvm Jvm.ClassFile Sem Op Lib Jvm.Free Jvm.Stand Jvm.Pilot.@@N@@.Jvm.D
/-! MADE BY PROGRAM (witnessworld.py) out of the Statement's table words and the real class files: 11 classes; the members and pool entries that the words name. The judged class is class 1, her method 1. -/
namespace start1
open Jvm.ClassFile
def u (s : String) : CpInfo := .utf8 (stringToUtf16 s)
/-- a pool by its gaps: so many unusable entries, then the entry; so many at the end -/
def gap : Nat → List CpInfo → List CpInfo
  | 0, r => r
  | n + 1, r => .unusable :: gap n r
def poolList (es : List (Nat × CpInfo)) (last : Nat) : List CpInfo := es.foldr (fun e r => gap e.1 (e.2 :: r)) (gap last [])
def pool (es : List (Nat × CpInfo)) (last : Nat) : Array CpInfo := ⟨poolList es last⟩
def fileOf (pool : Array CpInfo) (this : Nat) (attrs : Array Attribute := #[]) (ms : Array MethodInfo := #[]) (fl : Nat := 33) (sup : Nat := 0) (ifs : Array Nat := #[]) (fds : Array FieldInfo := #[]) : ClassFile where
  minorVersion := 0
  majorVersion := 65
  constantPool := pool
  accessFlags := fl
  thisClass := this
  superClass := sup
  interfaces := ifs
  fields := fds
  methods := ms
  attributes := attrs
def plain (name : String) (sup : Option ClassId) : Class where
  name := name
  kind := .ordinary
  loader := none
  accessFlags := 33
  super := sup
  interfaces := #[]
  cf := none
  fields := #[]
  methods := #[]
  instanceTypes := #[]
  staticTypes := #[]
  resolved := #[]
  callSites := []
  init := .initialized
  statics := none
  mirror := none

def pool0 : Array CpInfo := pool [(5, u "<init>"), (0, u "()V"), (1, .class_ 10), (1, u "java/lang/Object")] 113

def k0c0 : Code := { maxStack := 0, maxLocals := 1, code := object_method_1_code, exceptionTable := #[], attributes := #[] }
def k0m0 : Method := { name := "<init>", desc := "()V", sig := { parameters := [], returnType := none }, accessFlags := 1, code := some k0c0 }
/-- java/lang/Object -/
def k0 : Class := { plain "java/lang/Object" none with
  accessFlags := 33
  interfaces := #[]
  cf := some (fileOf pool0 8 #[] #[{ accessFlags := 1, nameIndex := 5, descriptorIndex := 6, attributes := #[] }] 33 0 #[] #[])
  fields := #[]
  methods := #[k0m0]
  instanceTypes := #[]
  staticTypes := #[]
  resolved := Array.replicate 124 none
  statics := none }

def pool1 : Array CpInfo := pool [(2, .class_ 4), (0, .nameAndType 5 6), (0, u "java/lang/Object"), (0, u "<init>"), (0, u "()V"), (0, .long 10), (1, .long 100), (1, .long 1000), (1, .long 10000), (1, .long 100000), (1, .long 1000000), (1, .long 10000000), (1, .long 100000000), (1, .long 1000000000), (1, .long 10000000000), (1, .long 100000000000), (1, .long 1000000000000), (1, .long 10000000000000), (1, .long 100000000000000), (1, .long 1000000000000000), (1, .long 10000000000000000), (1, .long 100000000000000000), (1, .long 1000000000000000000), (3, .long 9223372036854775807), (1, .methodref 48 49), (0, .class_ 50), (0, .nameAndType 51 52), (0, u "com/example/biller/biller/files/PlainValueReadPinLaw"), (0, u "at"), (0, u "(I[IJ[J)B"), (0, .class_ 54), (0, u "com/example/biller/biller/files/PlainValue"), (0, .methodref 53 3), (0, .methodref 53 57), (0, .nameAndType 58 59), (0, u "read"), (0, u "([BII)I"), (0, .methodref 53 61), (0, .nameAndType 62 63), (0, u "unscaled"), (0, u "()J"), (0, .long 725), (1, .methodref 53 67), (0, .nameAndType 68 69), (0, u "scale"), (0, u "()I"), (2, u "law"), (0, u "(JII)Z")] 9

def k1m0 : Method := { name := "<init>", desc := "()V", sig := { parameters := [], returnType := none }, accessFlags := 1, code := none }
def k1c1 : Code := { maxStack := 7, maxLocals := 29, code := code, exceptionTable := #[], attributes := #[] }
def k1m1 : Method := { name := "law", desc := "(JII)Z", sig := { parameters := [.long, .int, .int], returnType := some .boolean }, accessFlags := 9, code := some k1c1 }
def k1c2 : Code := { maxStack := 6, maxLocals := 13, code := method_3_code, exceptionTable := #[], attributes := #[] }
def k1m2 : Method := { name := "at", desc := "(I[IJ[J)B", sig := { parameters := [.int, (.array .int), .long, (.array .long)], returnType := some .byte }, accessFlags := 10, code := some k1c2 }
/-- com/example/biller/biller/files/PlainValueReadPinLaw -/
def k1 : Class := { plain "com/example/biller/biller/files/PlainValueReadPinLaw" (some 0) with
  accessFlags := 49
  interfaces := #[]
  cf := some (fileOf pool1 48 #[] #[{ accessFlags := 1, nameIndex := 5, descriptorIndex := 6, attributes := #[] }, { accessFlags := 9, nameIndex := 72, descriptorIndex := 73, attributes := #[] }, { accessFlags := 10, nameIndex := 51, descriptorIndex := 52, attributes := #[] }] 49 2 #[] #[])
  fields := #[]
  methods := #[k1m0, k1m1, k1m2]
  instanceTypes := #[]
  staticTypes := #[]
  resolved := Array.replicate 83 none
  statics := none }

def pool2 : Array CpInfo := pool [(3, .methodref 4 5), (0, .class_ 6), (0, .nameAndType 7 8), (0, u "java/lang/Object"), (0, u "<init>"), (0, u "()V"), (0, .long 10), (1, .class_ 12), (0, u "com/example/biller/biller/files/PlainValue"), (0, .fieldref 11 14), (0, .nameAndType 15 16), (0, u "unscaled"), (0, u "J"), (0, .fieldref 11 18), (0, .nameAndType 19 20), (0, u "scale"), (0, u "I"), (0, u "MAX_DIGITS"), (4, u "read"), (0, u "([BII)I"), (3, u "()J"), (0, u "()I")] 6

def k2c0 : Code := { maxStack := 1, maxLocals := 1, code := prog_81_method_1_code, exceptionTable := #[], attributes := #[] }
def k2m0 : Method := { name := "<init>", desc := "()V", sig := { parameters := [], returnType := none }, accessFlags := 0, code := some k2c0 }
def k2c1 : Code := { maxStack := 4, maxLocals := 11, code := prog_81_method_2_code, exceptionTable := #[], attributes := #[] }
def k2m1 : Method := { name := "read", desc := "([BII)I", sig := { parameters := [(.array .byte), .int, .int], returnType := some .int }, accessFlags := 0, code := some k2c1 }
def k2c2 : Code := { maxStack := 2, maxLocals := 1, code := prog_81_method_3_code, exceptionTable := #[], attributes := #[] }
def k2m2 : Method := { name := "unscaled", desc := "()J", sig := { parameters := [], returnType := some .long }, accessFlags := 0, code := some k2c2 }
def k2c3 : Code := { maxStack := 1, maxLocals := 1, code := prog_81_method_4_code, exceptionTable := #[], attributes := #[] }
def k2m3 : Method := { name := "scale", desc := "()I", sig := { parameters := [], returnType := some .int }, accessFlags := 0, code := some k2c3 }
/-- com/example/biller/biller/files/PlainValue -/
def k2 : Class := { plain "com/example/biller/biller/files/PlainValue" (some 0) with
  accessFlags := 48
  interfaces := #[]
  cf := some (fileOf pool2 11 #[] #[{ accessFlags := 0, nameIndex := 7, descriptorIndex := 8, attributes := #[] }, { accessFlags := 0, nameIndex := 26, descriptorIndex := 27, attributes := #[] }, { accessFlags := 0, nameIndex := 15, descriptorIndex := 31, attributes := #[] }, { accessFlags := 0, nameIndex := 19, descriptorIndex := 32, attributes := #[] }] 48 4 #[] #[{ accessFlags := 24, nameIndex := 21, descriptorIndex := 20, attributes := #[] }, { accessFlags := 2, nameIndex := 15, descriptorIndex := 16, attributes := #[] }, { accessFlags := 2, nameIndex := 19, descriptorIndex := 20, attributes := #[] }])
  fields := #[{ name := "MAX_DIGITS", type := .int, accessFlags := 24, slot := 0, constantValue := 0 }, { name := "unscaled", type := .long, accessFlags := 2, slot := 0, constantValue := 0 }, { name := "scale", type := .int, accessFlags := 2, slot := 1, constantValue := 0 }]
  methods := #[k2m0, k2m1, k2m2, k2m3]
  instanceTypes := #[.long, .int]
  staticTypes := #[.int]
  resolved := Array.replicate 39 none
  statics := none }

def pool3 : Array CpInfo := pool [(1, u "java/lang/Cloneable"), (0, .class_ 1), (0, u "java/lang/Object"), (0, .class_ 3)] 3

/-- java/lang/Cloneable -/
def k3 : Class := { plain "java/lang/Cloneable" (some 0) with
  accessFlags := 1537
  interfaces := #[]
  cf := some (fileOf pool3 2 #[] #[] 1537 4 #[] #[])
  fields := #[]
  methods := #[]
  instanceTypes := #[]
  staticTypes := #[]
  resolved := Array.replicate 8 none
  statics := none }

def pool4 : Array CpInfo := pool [(1, u "java/io/Serializable"), (0, .class_ 1), (0, u "java/lang/Object"), (0, .class_ 3)] 3

/-- java/io/Serializable -/
def k4 : Class := { plain "java/io/Serializable" (some 0) with
  accessFlags := 1537
  interfaces := #[]
  cf := some (fileOf pool4 2 #[] #[] 1537 4 #[] #[])
  fields := #[]
  methods := #[]
  instanceTypes := #[]
  staticTypes := #[]
  resolved := Array.replicate 8 none
  statics := none }

/-- the primitive byte -/
def k5 : Class := { plain "byte" none with kind := .primitive 'B', accessFlags := 0x411 }
/-- [B -/
def k6 : Class := { plain "[B" (some 0) with kind := .array 5 .byte, interfaces := #[3, 4], accessFlags := 1041 }

/-- the primitive int -/
def k7 : Class := { plain "int" none with kind := .primitive 'I', accessFlags := 0x411 }
/-- [I -/
def k8 : Class := { plain "[I" (some 0) with kind := .array 7 .int, interfaces := #[3, 4], accessFlags := 1041 }

/-- the primitive long -/
def k9 : Class := { plain "long" none with kind := .primitive 'J', accessFlags := 0x411 }
/-- [J -/
def k10 : Class := { plain "[J" (some 0) with kind := .array 9 .long, interfaces := #[3, 4], accessFlags := 1041 }

def heap : Heap := #[]
def classes : Array Class := #[k0, k1, k2, k3, k4, k5, k6, k7, k8, k9, k10]
def interned : List (Array UInt16 × Addr) := []
def slotsUsed : Nat := 0
def theMethod : MethodId := ⟨1, 1⟩
def args0 : Array Value := #[.long 12345, .int 5, .int 7]
def aboutOver (below : List Frame) : State where
  vm := { classes := classes, interned := interned.toArray }
  heap := heap
  slotsUsed := slotsUsed
  threads := #[{ frames := .invoking theMethod args0 :: below }]
def below0 : List Frame := [.native { method := ⟨0, 0⟩, args := #[] }]
def about1 : State := aboutOver below0
def p0 : Program := .bare "" "" ""
def e0 : Env := launch0.env 0 0 0
theorem w_frames : about1.frames = Frame.invoking theMethod args0 :: below0 := rfl
set_option maxRecDepth 65536 in
theorem w_args : argsFit about1.vm theMethod args0 = true := by decide +kernel
set_option maxRecDepth 65536 in
theorem w_heap : heapFits about1 = true := by decide +kernel
set_option maxRecDepth 65536 in
theorem w_runnable : about1.curStatus? = some .runnable := by decide +kernel
set_option maxRecDepth 65536 in
theorem w_alone : about1.alone = true := by decide +kernel
set_option maxRecDepth 65536 in
theorem w_named : about1.methodNamed? x = some theMethod := by decide +kernel
set_option maxRecDepth 65536 in
theorem w_hears : about1.hears theMethod below0 = true := by decide +kernel
set_option maxRecDepth 65536 in
theorem w_ripe : about1.ripe theMethod args0 below0 = true := by decide +kernel
theorem w_running : about1.status = .running := rfl
set_option maxRecDepth 65536 in
theorem w_room : about1.hasRoom e0.platform room_1 = true :=
  launch0.hasRoom_least _ room_1 (by decide +kernel) (by decide +kernel) (by decide +kernel) (by decide +kernel) (by decide +kernel) (by decide +kernel)
theorem allAtoms_all (ts : List Jvm.Cond) (a : Array Jvm.Value) (st : Jvm.State) : (allAtoms ts).before a st = ts.all (fun c => c.before a st) := by
  induction ts with
  | nil => rfl
  | cons c t ih =>
    show (Jvm.Cond.and c (allAtoms t)).before a st = _
    rw [Jvm.Cond.before_and, ih, List.all_cons]
def words1 : List Jvm.Cond := Jvm.Cond.code x code maxLocals ret :: tables_1
/-- a 'code' word, met by the world's own term for the bytes: nothing is compared byte by byte -/
theorem code_word {y : MethodName} {bytes : ByteArray} {mx : Nat} {rt : Option FieldType} {a : Array Value} {s : State} {m : MethodId} {meth : Method} {c : Code} (h1 : s.methodNamed? y = some m) (h2 : s.vm.method? m = some meth) (h3 : meth.code = some c) (h4 : c.code = bytes)
    (h5 : (c.maxLocals == mx && c.exceptionTable.isEmpty && decide (c.maxStack ≤ mostOperands) && decide (meth.sig.returnType = rt) && !meth.locks && decide (parseMethodDescriptor y.desc = some meth.sig)) = true) : (Jvm.Cond.code y bytes mx rt).before a s = true := by
  simp only [Bool.and_eq_true, beq_iff_eq, Bool.not_eq_true', decide_eq_true_eq] at h5
  obtain ⟨⟨⟨⟨⟨g1, g2⟩, g3⟩, g4⟩, g5⟩, g6⟩ := h5
  simp [Cond.before, Cond.holds, Cond.value, h1, h2, h3, h4, g1, g2, g3, g4, g5, g6]
def isCode : Jvm.Cond → Bool
  | .code _ _ _ _ => true
  | _ => false
theorem all_split {L : List Jvm.Cond} {P : Jvm.Cond → Bool} (h1 : L.all (fun c => isCode c || P c) = true) (h2 : ∀ c ∈ L.filter isCode, P c = true) : L.all P = true := by
  refine List.all_eq_true.mpr fun c hc => ?_
  have h := List.all_eq_true.mp h1 c hc
  rcases Bool.eq_false_or_eq_true (isCode c) with hi | hi
  · exact h2 c (List.mem_filter.mpr ⟨hc, hi⟩)
  · simpa [hi] using h
set_option maxRecDepth 65536 in
theorem w_c0 : (Jvm.Cond.code x code maxLocals ret).before args0 about1 = true := code_word (m := ⟨1, 1⟩) (meth := k1m1) (c := k1c1) (by decide +kernel) rfl rfl rfl (by decide +kernel)
set_option maxRecDepth 65536 in
theorem w_c1 : (Jvm.Cond.code ({ cls := "com/example/biller/biller/files/PlainValueReadPinLaw", name := "at", desc := "(I[IJ[J)B" } : Jvm.MethodName) method_3_code (13 : Nat) (Option.some Jvm.ClassFile.FieldType.byte)).before args0 about1 = true := code_word (m := ⟨1, 2⟩) (meth := k1m2) (c := k1c2) (by decide +kernel) rfl rfl rfl (by decide +kernel)
set_option maxRecDepth 65536 in
theorem w_c2 : (Jvm.Cond.code ({ cls := "com/example/biller/biller/files/PlainValue", name := "<init>", desc := "()V" } : Jvm.MethodName) prog_81_method_1_code (1 : Nat) (Option.none : Option Jvm.ClassFile.FieldType)).before args0 about1 = true := code_word (m := ⟨2, 0⟩) (meth := k2m0) (c := k2c0) (by decide +kernel) rfl rfl rfl (by decide +kernel)
set_option maxRecDepth 65536 in
theorem w_c3 : (Jvm.Cond.code ({ cls := "java/lang/Object", name := "<init>", desc := "()V" } : Jvm.MethodName) object_method_1_code (1 : Nat) (Option.none : Option Jvm.ClassFile.FieldType)).before args0 about1 = true := code_word (m := ⟨0, 0⟩) (meth := k0m0) (c := k0c0) (by decide +kernel) rfl rfl rfl (by decide +kernel)
set_option maxRecDepth 65536 in
theorem w_c4 : (Jvm.Cond.code ({ cls := "com/example/biller/biller/files/PlainValue", name := "read", desc := "([BII)I" } : Jvm.MethodName) prog_81_method_2_code (11 : Nat) (Option.some Jvm.ClassFile.FieldType.int)).before args0 about1 = true := code_word (m := ⟨2, 1⟩) (meth := k2m1) (c := k2c1) (by decide +kernel) rfl rfl rfl (by decide +kernel)
set_option maxRecDepth 65536 in
theorem w_c5 : (Jvm.Cond.code ({ cls := "com/example/biller/biller/files/PlainValue", name := "unscaled", desc := "()J" } : Jvm.MethodName) prog_81_method_3_code (1 : Nat) (Option.some Jvm.ClassFile.FieldType.long)).before args0 about1 = true := code_word (m := ⟨2, 2⟩) (meth := k2m2) (c := k2c2) (by decide +kernel) rfl rfl rfl (by decide +kernel)
set_option maxRecDepth 65536 in
theorem w_c6 : (Jvm.Cond.code ({ cls := "com/example/biller/biller/files/PlainValue", name := "scale", desc := "()I" } : Jvm.MethodName) prog_81_method_4_code (1 : Nat) (Option.some Jvm.ClassFile.FieldType.int)).before args0 about1 = true := code_word (m := ⟨2, 3⟩) (meth := k2m3) (c := k2c3) (by decide +kernel) rfl rfl rfl (by decide +kernel)
def codes1 : List Jvm.Cond := [Jvm.Cond.code x code maxLocals ret, Jvm.Cond.code ({ cls := "com/example/biller/biller/files/PlainValueReadPinLaw", name := "at", desc := "(I[IJ[J)B" } : Jvm.MethodName) method_3_code (13 : Nat) (Option.some Jvm.ClassFile.FieldType.byte), Jvm.Cond.code ({ cls := "com/example/biller/biller/files/PlainValue", name := "<init>", desc := "()V" } : Jvm.MethodName) prog_81_method_1_code (1 : Nat) (Option.none : Option Jvm.ClassFile.FieldType), Jvm.Cond.code ({ cls := "java/lang/Object", name := "<init>", desc := "()V" } : Jvm.MethodName) object_method_1_code (1 : Nat) (Option.none : Option Jvm.ClassFile.FieldType), Jvm.Cond.code ({ cls := "com/example/biller/biller/files/PlainValue", name := "read", desc := "([BII)I" } : Jvm.MethodName) prog_81_method_2_code (11 : Nat) (Option.some Jvm.ClassFile.FieldType.int), Jvm.Cond.code ({ cls := "com/example/biller/biller/files/PlainValue", name := "unscaled", desc := "()J" } : Jvm.MethodName) prog_81_method_3_code (1 : Nat) (Option.some Jvm.ClassFile.FieldType.long), Jvm.Cond.code ({ cls := "com/example/biller/biller/files/PlainValue", name := "scale", desc := "()I" } : Jvm.MethodName) prog_81_method_4_code (1 : Nat) (Option.some Jvm.ClassFile.FieldType.int)]
set_option maxRecDepth 65536 in
theorem codes_eq : words1.filter isCode = codes1 := rfl
theorem w_codes : ∀ c ∈ words1.filter isCode, c.before args0 about1 = true := by
  rw [codes_eq]
  intro c hc
  simp only [codes1, List.mem_cons, List.not_mem_nil, or_false] at hc
  rcases hc with rfl | rfl | rfl | rfl | rfl | rfl | rfl
  · exact w_c0
  · exact w_c1
  · exact w_c2
  · exact w_c3
  · exact w_c4
  · exact w_c5
  · exact w_c6
set_option maxRecDepth 65536 in
theorem w_t1 : (words1.take 24).all (fun c => isCode c || c.before args0 about1) = true := by decide +kernel
set_option maxRecDepth 65536 in
theorem w_t2 : ((words1.drop 24).take 24).all (fun c => isCode c || c.before args0 about1) = true := by decide +kernel
set_option maxRecDepth 65536 in
theorem w_t3 : ((words1.drop 24).drop 24).all (fun c => isCode c || c.before args0 about1) = true := by decide +kernel
theorem w_tables : (allAtoms (Jvm.Cond.code x code maxLocals ret :: tables_1)).before args0 about1 = true := by
  rw [allAtoms_all]
  show words1.all (fun c => c.before args0 about1) = true
  refine all_split ?_ w_codes
  rw [← List.take_append_drop 24 words1, List.all_append, w_t1, ← List.take_append_drop 24 (words1.drop 24), List.all_append, w_t2, w_t3]
  rfl
set_option maxRecDepth 65536 in
theorem w_case : (Jvm.Cond.and given_1 narrow_1).before args0 about1 = true := by decide +kernel
theorem w_applies : (headSpec (Jvm.Cond.code x code maxLocals ret :: tables_1) room_1).applies x e0.platform about1 = true :=
  (Spec.applies_iff w_frames).mpr ⟨w_running, w_runnable, w_alone, w_named, w_hears, w_ripe, w_room, w_tables⟩
theorem atStart : AtStart classFile x code maxLocals ret World_1 tables_1 room_1 Calls_1 rest_1 Pre_1 launch0 p0 e0 about1 theMethod args0 below0 :=
  ⟨lists_1, trivial, launch0.admits_env _ _ _, launch0.least_env, fairChoices_fair.cas, fairChoices_fair.clock, w_frames, w_args, w_heap, w_applies, trivial, trivial, w_case⟩
end start1
theorem witness_1 : WitnessClaimed_1 := ⟨start1.p0, start1.e0, start1.about1, start1.theMethod, start1.args0, start1.below0, start1.atStart⟩
end Jvm.Pilot.@@N@@
